import PyProof.Rows.All
import Wide.All
import OpenK.AllK
import Wide.FinOn
import PySem.Challenge.RW_sn0049_01
open PySem PySem.W PySem.Calls PyProof.Rows PySem.Spec
set_option Elab.async false
set_option linter.unusedVariables false
section
set_option maxRecDepth 10000
namespace Mine

/-- values without their tokens -/
inductive V where
  | none
  | bool (b : Bool)
  | int (i : Int)
  | str (s : Str)
  | ref (a : Addr)
  | abs (v : Value)

noncomputable def Rz : V → Value → Prop
  | .none, v => v = .none
  | .bool b, v => v = .bool b
  | .int i, v => ∃ t, v = .int i t
  | .str x, v => ∃ t, v = .str x t
  | .ref a, v => v = .ref a
  | .abs x, v => v = x

noncomputable def RzL : List V → List Value → Prop
  | [], [] => True
  | x :: xs, y :: ys => Rz x y ∧ RzL xs ys
  | _, _ => False

noncomputable def RzO : Option V → Option Value → Prop
  | .none, _ => True
  | .some x, .some y => Rz x y
  | _, _ => False

noncomputable abbrev Ms := List (Nat × V)

/-- what the objects of the call's own are -/
inductive O where
  | list (xs : List V)
  | tuple (xs : List V)
  | frame (names : List Str) (m : Ms)
  | cell (v : Option V)
  | liter (l : Addr) (i : Nat)
  | rng (a b c : Int)
  | riter (x left step : Int)
  | siter (x : Str) (i : Nat)
  | inst (C : Addr) (d : Addr)
  | idict (k : Str) (v : V)
  | edict
  | obj (o : Obj)

noncomputable def OR : O → Obj → Prop
  | .list xs, o => ∃ vs n, o = ⟨.type "list", .none, .seq vs.toArray n, #[]⟩ ∧ RzL xs vs
  | .tuple xs, o => ∃ vs n, o = ⟨.type "tuple", .none, .seq vs.toArray n, #[]⟩ ∧ RzL xs vs
  | .frame names m, o => ∃ es ep, o.data = .dict es ep ∧ StrKeys es ∧ ∀ i x, names[i]? = some x → RzO (m.lookup i) (nsFind es x)
  | .cell v, o => ∃ u, o.data = .cell u ∧ RzO v u
  | .liter l i, o => o.cls = .type "list_iterator" ∧ o.data = .fields #[.ref l, .int i 0]
  | .rng a b c, o => ∃ t u v, o = ⟨.type "range", .none, .fields #[.int a t, .int b u, .int c v], #[]⟩
  | .riter x left step, o => o = ⟨.type "range_iterator", .none, .fields #[rawInt x, rawInt left, rawInt step], #[]⟩
  | .siter x i, o => ∃ t, o.cls = .type (if x.cps.all (· < 128) then "str_ascii_iterator" else "str_iterator") ∧ o.data = .fields #[.str x t, .int i 0]
  | .inst C d, o => o = ⟨.ref C, some d, .plain, #[]⟩
  | .idict k v, o => ∃ t u n hsh, o = ⟨.type "dict", .none, .dict #[⟨hsh, .str k t, u⟩] n, #[]⟩ ∧ Rz v u
  | .edict, o => o = ⟨.type "dict", .none, .dict #[] 0, #[]⟩
  | .obj x, o => o = x

noncomputable abbrev Sto := List (Addr × O)

structure Rel (S0 : Shared) (σ : Sto) (s : Shared) : Prop where
  gens : s.gens = S0.gens
  os : s.os = S0.os
  keep : ∀ b o, S0.heap.get? b = some o → s.heap.get? b = some o
  nodup : (σ.map (·.1)).Nodup
  objs : ∀ p ∈ σ, S0.heap.get? p.1 = .none ∧ ∃ o, s.heap.get? p.1 = some o ∧ OR p.2 o

theorem RzL.length {xs : List V} {vs : List Value} (h : RzL xs vs) : xs.length = vs.length := by
  induction xs generalizing vs with
  | nil => cases vs with | nil => rfl | cons => exact h.elim
  | cons x xs ih => cases vs with | nil => exact h.elim | cons v vs => simp [ih h.2]
theorem RzL.get {xs : List V} {vs : List Value} (h : RzL xs vs) {i : Nat} {x : V} (e : xs[i]? = some x) : ∃ v, vs[i]? = some v ∧ Rz x v := by
  induction xs generalizing vs i with
  | nil => simp at e
  | cons y ys ih =>
    cases vs with
    | nil => exact h.elim
    | cons v vs =>
      cases i with
      | zero => simp at e; subst e; exact ⟨v, rfl, h.1⟩
      | succ i => simp at e; simpa using ih h.2 e
theorem RzL.append {xs ys : List V} {vs us : List Value} (h : RzL xs vs) (h' : RzL ys us) : RzL (xs ++ ys) (vs ++ us) := by
  induction xs generalizing vs with
  | nil => cases vs with | nil => exact h' | cons => exact h.elim
  | cons x xs ih => cases vs with | nil => exact h.elim | cons v vs => exact ⟨h.1, ih h.2⟩
theorem RzL.snoc {xs : List V} {y : V} {vs : List Value} {u : Value} (h : RzL xs vs) (h' : Rz y u) : RzL (xs ++ [y]) (vs ++ [u]) := h.append ⟨h', trivial⟩

namespace Rel
variable {S0 : Shared} {σ : Sto} {s : Shared}

theorem lt {p : Addr × O} (R : Rel S0 σ s) (h : p ∈ σ) : p.1 < s.heap.objs.size := let ⟨_, _, ho, _⟩ := R.objs p h; Heap.lt_size ho

theorem toks (R : Rel S0 σ s) (t : Nat) : Rel S0 σ { s with toks := t } := ⟨R.gens, R.os, R.keep, R.nodup, R.objs⟩

theorem draws (R : Rel S0 σ s) (d : Drawn) : Rel S0 σ { s with drawn := d } := ⟨R.gens, R.os, R.keep, R.nodup, R.objs⟩

theorem grow (R : Rel S0 σ s) {h' : Heap} (k : ∀ b o, s.heap.get? b = some o → h'.get? b = some o) (t : Nat) : Rel S0 σ { s with heap := h', toks := t } :=
  ⟨R.gens, R.os, fun b o e => k _ _ (R.keep b o e), R.nodup, fun p hp => let ⟨a, o, ho, h⟩ := R.objs p hp; ⟨a, o, k _ _ ho, h⟩⟩

theorem sub (R : Rel S0 σ s) {τ : Sto} (h : τ.Sublist σ) : Rel S0 τ s :=
  ⟨R.gens, R.os, R.keep, R.nodup.sublist (h.map _), fun p hp => R.objs p (h.subset hp)⟩
theorem perm (R : Rel S0 σ s) {τ : Sto} (h : σ.Perm τ) : Rel S0 τ s :=
  ⟨R.gens, R.os, R.keep, (h.map (·.1)).nodup R.nodup, fun p hp => R.objs p (h.symm.subset hp)⟩

theorem fresh (R : Rel S0 σ s) : S0.heap.get? s.heap.objs.size = .none := by
  cases e : S0.heap.get? s.heap.objs.size with
  | none => rfl
  | some o => exact absurd (Heap.lt_size (R.keep _ _ e)) (Nat.lt_irrefl _)

theorem alloc (R : Rel S0 σ s) {o : Obj} {x : O} (hx : OR x o) (hf : o.isFreed = false) (t : Nat) : Rel S0 ((s.heap.objs.size, x) :: σ) { s with heap := s.heap.push o, toks := t } := by
  refine ⟨R.gens, R.os, fun b o' e => Heap.get?_push_of_some _ (R.keep b o' e), ?_, ?_⟩
  · rw [List.map_cons, List.nodup_cons]
    refine ⟨fun hm => ?_, R.nodup⟩
    obtain ⟨p, hp, e⟩ := List.mem_map.mp hm
    exact absurd (e ▸ R.lt hp) (Nat.lt_irrefl _)
  · intro p hp
    rcases List.mem_cons.mp hp with rfl | hp
    · exact ⟨R.fresh, o, Heap.get?_push_size _ hf, hx⟩
    · obtain ⟨a, o', ho, h⟩ := R.objs p hp
      exact ⟨a, o', Heap.get?_push_of_some _ ho, h⟩

theorem upd {l1 l2 : Sto} {a : Addr} {x y : O} (R : Rel S0 (l1 ++ (a, x) :: l2) s) {h' : Heap} (hs : Heap.SameBut a s.heap h') {o : Obj} (ho : h'.get? a = some o) (hy : OR y o) (t : Nat) :
    Rel S0 (l1 ++ (a, y) :: l2) { s with heap := h', toks := t } := by
  have hm : (a, x) ∈ l1 ++ (a, x) :: l2 := List.mem_append_right _ (.head _)
  have ha := (R.objs _ hm).1
  have hnd := R.nodup
  rw [List.map_append, List.map_cons, List.nodup_append] at hnd
  obtain ⟨n1, n2, n3⟩ := hnd
  rw [List.nodup_cons] at n2
  refine ⟨R.gens, R.os, fun b o' e => (hs.2 b (fun q => ?_)).trans (R.keep b o' e), ?_, ?_⟩
  · subst q; rw [ha] at e; cases e
  · rw [List.map_append, List.map_cons, List.nodup_append]; exact ⟨n1, List.nodup_cons.mpr n2, n3⟩
  · have other : ∀ p, p ∈ l1 ++ (a, x) :: l2 → p.1 ≠ a → S0.heap.get? p.1 = .none ∧ ∃ o, h'.get? p.1 = some o ∧ OR p.2 o := fun p hp hne => by
      obtain ⟨q, o', ho', h⟩ := R.objs p hp
      exact ⟨q, o', (hs.2 p.1 hne).trans ho', h⟩
    intro p hp
    rcases List.mem_append.mp hp with hp | hp
    · exact other p (List.mem_append_left _ hp) (n3 p.1 (List.mem_map_of_mem hp) a (.head _))
    · rcases List.mem_cons.mp hp with rfl | hp
      · exact ⟨ha, o, ho, hy⟩
      · exact other p (List.mem_append_right _ (.tail _ hp)) (fun q => n2.1 (q ▸ (List.mem_map_of_mem hp : p.1 ∈ l2.map (·.1))))
end Rel

/-- the triple over the whole store -/
noncomputable def Tr {α : Type} (prog : Program) (w : World) (S0 : Shared) (A : Around) (τ : Sto) (t : Sem α) (P : α → Sto → Prop) : Prop :=
  ∀ s, Rel S0 τ s → ∀ (Q : α → Shared → Prop) (E : Value → Shared → Prop), (∀ a τ' s', Rel S0 τ' s' → P a τ' → Q a s') → wpAny (model prog w) A t Q E s

section
variable {prog : Program} {w : World} {S0 : Shared} {A : Around} {τ : Sto} {α β : Type}

theorem Tr.pure {a : α} {P : α → Sto → Prop} (h : P a τ) : Tr prog w S0 A τ (pure a : Sem α) P := fun s R _ _ k => wpAny_pure (k a τ s R h)
theorem Tr.bind {t : Sem α} {f : α → Sem β} {P : β → Sto → Prop} (h : Tr prog w S0 A τ t (fun a τ' => Tr prog w S0 A τ' (f a) P)) : Tr prog w S0 A τ (t >>= f) P :=
  fun s R Q E k => wpAny_bind (h s R _ E fun a τ' s' R' h' => h' s' R' Q E k)
theorem Tr.mono {t : Sem α} {P P' : α → Sto → Prop} (h : Tr prog w S0 A τ t P) (k : ∀ a τ', P a τ' → P' a τ') : Tr prog w S0 A τ t P' :=
  fun s R Q E k' => h s R Q E fun a τ' s' R' h' => k' a τ' s' R' (k a τ' h')
theorem Tr.weak {τ' : Sto} {t : Sem α} {P : α → Sto → Prop} (k : ∀ s, Rel S0 τ s → Rel S0 τ' s) (h : Tr prog w S0 A τ' t P) : Tr prog w S0 A τ t P :=
  fun s R Q E k' => h s (k s R) Q E k'
theorem Tr.drop {τ' : Sto} {t : Sem α} {P : α → Sto → Prop} (h : Tr prog w S0 A τ t (fun a τ₁ => ∃ τ₂, (∀ s, Rel S0 τ₁ s → Rel S0 τ₂ s) ∧ P a τ₂)) : Tr prog w S0 A τ t P :=
  fun s R Q E k => h s R Q E fun a τ₁ s' R' ⟨τ₂, hw, hp⟩ => k a τ₂ s' (hw s' R') hp
theorem Tr.standAt {p : Pos} {P : Unit → Sto → Prop} (h : P () τ) : Tr prog w S0 A τ (standAt p) P := fun s R _ _ k => wpAny_standAt (k () τ s R h)
theorem Tr.rule {t : String} {P : Unit → Sto → Prop} (h : P () τ) : Tr prog w S0 A τ (rule t) P := fun s R _ _ k => wpAny_rule (k () τ s R h)
theorem Tr.point {P : Unit → Sto → Prop} (h : P () τ) : Tr prog w S0 A τ point P := fun s R _ _ k => wpAny_point (k () τ s R h)
theorem Tr.holding {vs : List Value} {t : Sem α} {P : α → Sto → Prop} (h : Tr prog w S0 A τ t P) : Tr prog w S0 A τ (holding vs t) P :=
  fun s R Q E k => wpAny_holding (h s R Q E k)
theorem Tr.of_eq {t : Sem α} {a : α} {P : α → Sto → Prop} (e : t = Pure.pure a) (h : P a τ) : Tr prog w S0 A τ t P := e ▸ Tr.pure h
end
end Mine
end

section
set_option maxRecDepth 10000
namespace Mine

/-- what the top left: the globals and the built-ins -/
structure Bs (S0 : Shared) (mg mb : Str → Option Value) : Prop where
  g : S0.heap.Ns mainGlobals mg
  b : S0.heap.Ns builtinsNs mb
  lim : S0.heap.NoLimit
  bb : ∀ x : Str, x ≠ "__name__" → mb x = bootBuiltins x

structure Cx where
  A : Around
  env : Env
  names : List Str
  F : Sto
  kind : env.scope.kind = .function
  glob : env.globals = mainGlobals
  blt : env.builtins = builtinsNs
  hand : A.handled = .none
  nd : names.Nodup

noncomputable def Cx.st (c : Cx) (m : Ms) (σ : Sto) : Sto := (c.env.locals, .frame c.names m) :: (c.F ++ σ)

/-- one store tells the other -/
noncomputable def Imp (S0 : Shared) (τ τ' : Sto) : Prop := ∀ s, Rel S0 τ s → Rel S0 τ' s
theorem Imp.rfl {S0 : Shared} {τ : Sto} : Imp S0 τ τ := fun _ R => R
theorem Imp.trans {S0 : Shared} {τ τ' τ'' : Sto} (h : Imp S0 τ τ') (h' : Imp S0 τ' τ'') : Imp S0 τ τ'' := fun s R => h' s (h s R)
theorem Imp.perm {S0 : Shared} {τ τ' : Sto} (h : τ.Perm τ') : Imp S0 τ τ' := fun s R => R.perm h
theorem Imp.sub {S0 : Shared} {τ τ' : Sto} (h : τ'.Sublist τ) : Imp S0 τ τ' := fun s R => R.sub h

inductive Upd (a : Addr) (x y : O) : Sto → Sto → Prop
  | head {σ : Sto} : Upd a x y ((a, x) :: σ) ((a, y) :: σ)
  | tail {p : Addr × O} {σ σ' : Sto} : Upd a x y σ σ' → Upd a x y (p :: σ) (p :: σ')
theorem Upd.split {a : Addr} {x y : O} {σ σ' : Sto} (h : Upd a x y σ σ') : ∃ l1 l2, σ = l1 ++ (a, x) :: l2 ∧ σ' = l1 ++ (a, y) :: l2 := by
  induction h with
  | head => exact ⟨[], _, rfl, rfl⟩
  | @tail p _ _ _ ih => obtain ⟨l1, l2, rfl, rfl⟩ := ih; exact ⟨p :: l1, l2, rfl, rfl⟩
theorem Upd.mem {a : Addr} {x y : O} {σ σ' : Sto} (h : Upd a x y σ σ') : (a, x) ∈ σ := by
  obtain ⟨l1, l2, rfl, _⟩ := h.split; exact List.mem_append_right _ (.head _)
theorem Upd.app {a : Addr} {x y : O} {σ σ' : Sto} (h : Upd a x y σ σ') : ∀ F : Sto, Upd a x y (F ++ σ) (F ++ σ')
  | [] => h
  | p :: F => .tail (h.app F)
theorem Upd.mid {a : Addr} {x y : O} {l1 l2 : Sto} : Upd a x y (l1 ++ (a, x) :: l2) (l1 ++ (a, y) :: l2) := Upd.app .head l1
theorem Rel.put {S0 : Shared} {a : Addr} {x y : O} {σ σ' : Sto} {s : Shared} (h : Upd a x y σ σ') (R : Rel S0 σ s) {h' : Heap} (hs : Heap.SameBut a s.heap h') {o : Obj} (ho : h'.get? a = some o) (hy : OR y o) (t : Nat) :
    Rel S0 σ' { s with heap := h', toks := t } := by
  obtain ⟨l1, l2, rfl, rfl⟩ := h.split
  exact R.upd hs ho hy t

variable (prog : Program) (w : World) (S0 : Shared)

noncomputable def Ev (c : Cx) (e : Expr) (m : Ms) (σ : Sto) (K : V → Sto → Prop) : Prop :=
  Tr prog w S0 c.A (c.st m σ) (eval e c.env) fun v τ => ∃ V σ', Rz V v ∧ Imp S0 τ (c.st m σ') ∧ K V σ'

inductive Fl where
  | next | brk | cont
  | ret (v : V)
noncomputable def RzF : Fl → Flow → Prop
  | .next, f => f = .next
  | .brk, f => f = .brk
  | .cont, f => f = .cont
  | .ret x, f => ∃ v, f = .ret v ∧ Rz x v

noncomputable def Ex (c : Cx) (ss : List Stmt) (m : Ms) (σ : Sto) (K : Fl → Ms → Sto → Prop) : Prop :=
  Tr prog w S0 c.A (c.st m σ) (execs ss c.env) fun f τ => ∃ F m' σ', RzF F f ∧ Imp S0 τ (c.st m' σ') ∧ K F m' σ'
noncomputable def Ex1 (c : Cx) (st : Stmt) (m : Ms) (σ : Sto) (K : Fl → Ms → Sto → Prop) : Prop :=
  Tr prog w S0 c.A (c.st m σ) (exec st c.env) fun f τ => ∃ F m' σ', RzF F f ∧ Imp S0 τ (c.st m' σ') ∧ K F m' σ'

/-- a test -/
noncomputable def Et (c : Cx) (e : Expr) (m : Ms) (σ : Sto) (K : Bool → Sto → Prop) : Prop :=
  Tr prog w S0 c.A (c.st m σ) (isTrue e c.env (eval e c.env)) fun b τ => ∃ σ', Imp S0 τ (c.st m σ') ∧ K b σ'

/-- an operation of the machine upon values, in a frame -/
noncomputable def Op (c : Cx) (m : Ms) (σ : Sto) (t : Sem Value) (K : V → Sto → Prop) : Prop :=
  Tr prog w S0 c.A (c.st m σ) t fun v τ => ∃ V σ', Rz V v ∧ Imp S0 τ (c.st m σ') ∧ K V σ'
noncomputable def Bin (c : Cx) (m : Ms) (σ : Sto) (op : Operator) (x y : V) (K : V → Sto → Prop) : Prop :=
  ∀ v u, Rz x v → Rz y u → Op prog w S0 c m σ (binaryOp op v u) K
noncomputable def IBin (c : Cx) (m : Ms) (σ : Sto) (op : Operator) (x y : V) (K : V → Sto → Prop) : Prop :=
  ∀ v u, Rz x v → Rz y u → Op prog w S0 c m σ (inplaceOp op v u) K
noncomputable def Cmp (c : Cx) (m : Ms) (σ : Sto) (op : CmpOp) (x y : V) (K : V → Sto → Prop) : Prop :=
  ∀ v u, Rz x v → Rz y u → Op prog w S0 c m σ (compareOp op v u) K
noncomputable def Tru (c : Cx) (m : Ms) (σ : Sto) (x : V) (K : Bool → Sto → Prop) : Prop :=
  ∀ v, Rz x v → Tr prog w S0 c.A (c.st m σ) (truthy v) fun b τ => ∃ σ', Imp S0 τ (c.st m σ') ∧ K b σ'
noncomputable def Sto1 (c : Cx) (m : Ms) (σ : Sto) (n : Str) (x : V) (K : Ms → Sto → Prop) : Prop :=
  ∀ v, Rz x v → Tr prog w S0 c.A (c.st m σ) (storeName c.env n v) fun _ τ => ∃ m' σ', Imp S0 τ (c.st m' σ') ∧ K m' σ'

variable {prog w S0}
section
variable {c : Cx} {m : Ms} {σ : Sto} {K : V → Sto → Prop}

theorem Op.of {t : Sem Value} (h : ∀ s, Rel S0 (c.st m σ) s → ∀ Q E, (∀ v V σ' s', Rel S0 (c.st m σ') s' → Rz V v → K V σ' → Q v s') → wpAny (model prog w) c.A t Q E s) : Op prog w S0 c m σ t K :=
  fun s R Q E k => h s R Q E fun v V σ' s' R' hz hk => k v (c.st m σ') s' R' ⟨V, σ', hz, Imp.rfl, hk⟩
theorem Op.get {t : Sem Value} (h : Op prog w S0 c m σ t K) : ∀ s, Rel S0 (c.st m σ) s → ∀ Q E, (∀ v V σ' s', Rel S0 (c.st m σ') s' → Rz V v → K V σ' → Q v s') → wpAny (model prog w) c.A t Q E s :=
  fun s R Q E k => h s R Q E fun v τ s' R' ⟨V, σ', hz, hi, hk⟩ => k v V σ' s' (hi s' R') hz hk
theorem Op.pure {x : V} {v : Value} (hz : Rz x v) (h : K x σ) : Op prog w S0 c m σ (pure v) K := Op.of fun s R Q E k => wpAny_pure (k v x σ s R hz h)
theorem Op.tok {t : Sem Value} {x : V} (h : K x σ) (ht : ∀ s (Q : Value → Shared → Prop) E, (∀ v tk, Rz x v → Q v { s with toks := tk }) → wpAny (model prog w) c.A t Q E s) : Op prog w S0 c m σ t K :=
  Op.of fun s R Q E k => ht s Q E fun v tk hz => k v x σ _ (R.toks tk) hz h

/- constants -/
theorem ev_int {i : Int} {k : Nat} {p : Pos} (h : K (.int i) σ) : Ev prog w S0 c (.Constant (.int i) k p) m σ K :=
  Op.tok h fun s Q E k => wpAny_Constant_int (k _ _ ⟨_, rfl⟩)
theorem ev_str {x : Str} {k : Nat} {p : Pos} (h : K (.str x) σ) : Ev prog w S0 c (.Constant (.str x) k p) m σ K :=
  Op.tok h fun s Q E k => Constant_str (k _ _ ⟨_, rfl⟩)
theorem ev_bool {b : Bool} {k : Nat} {p : Pos} (h : K (.bool b) σ) : Ev prog w S0 c (.Constant (.bool b) k p) m σ K :=
  Op.of fun s R Q E k => wpAny_pure (k _ (.bool b) _ s R rfl h)
theorem ev_none {k : Nat} {p : Pos} (h : K .none σ) : Ev prog w S0 c (.Constant .none k p) m σ K :=
  Op.of fun s R Q E k => wpAny_pure (k _ .none _ s R rfl h)

theorem frame_ns {names : List Str} {m : Ms} {s : Shared} {L : Addr} {rest : Sto} (R : Rel S0 ((L, .frame names m) :: rest) s) :
    ∃ mm, s.heap.Ns L mm ∧ ∀ i x, names[i]? = some x → RzO (m.lookup i) (mm x) := by
  obtain ⟨_, o, ho, es, ep, hd, hk, hm⟩ := R.objs _ (.head _)
  exact ⟨nsFind es, ⟨o, es, ep, ho, hd, hk, fun _ => rfl⟩, hm⟩

theorem RzO.some {x : V} {u : Option Value} (h : RzO (some x) u) : ∃ v, u = some v ∧ Rz x v := by
  cases u with | none => exact h.elim | some v => exact ⟨v, rfl, h⟩

theorem names_loc {x : Str} {i : Nat} (hd : (x == ("__debug__" : Str)) = false) (hk : c.env.scope.names.lookup x = some .local) (hn : c.names[i]? = some x) {V0 : V} (hv : m.lookup i = some V0)
    {s : Shared} (R : Rel S0 (c.st m σ) s) {Q : Value → Shared → Prop} {E : Value → Shared → Prop} (k : ∀ v, Rz V0 v → Q v s) : wpAny (model prog w) c.A (loadName c.env x) Q E s := by
  obtain ⟨mm, hns, hm⟩ := frame_ns R
  have := hm i x hn
  rw [hv] at this
  obtain ⟨v, hv', hz⟩ := this.some
  exact wpAny_loadName_local c.kind hk hns hv' (k v hz)

/-- a local name -/
theorem ev_loc {x : Str} {p : Pos} {i : Nat} {V0 : V} (hk : c.env.scope.names.lookup x = some .local) (hd : (x == ("__debug__" : Str)) = false) (hn : c.names[i]? = some x) (hv : m.lookup i = some V0) (h : K V0 σ) :
    Ev prog w S0 c (.Name x p) m σ K :=
  Op.of fun s R Q E k => wpAny_Name (names_loc hd hk hn hv R fun v hz => k v V0 σ s R hz h) hd

theorem cell_at {a : Addr} {v : Option V} {τ : Sto} {s : Shared} (R : Rel S0 τ s) (hm : (a, O.cell v) ∈ τ) : ∃ u, s.heap.IsCell a u ∧ RzO v u := by
  obtain ⟨_, o, ho, u, hd, hz⟩ := R.objs _ hm
  exact ⟨u, ⟨o, ho, hd⟩, hz⟩
theorem mem_st {p : Addr × O} (h : p ∈ σ) : p ∈ c.st m σ := .tail _ (List.mem_append_right _ h)
theorem mem_F {p : Addr × O} (h : p ∈ c.F) : p ∈ c.st m σ := .tail _ (List.mem_append_left _ h)

/-- a name that a comprehension captures -/
theorem ev_cell {x : Str} {p : Pos} {a : Addr} {V0 : V} (hk : c.env.scope.names.lookup x = some .cell ∨ c.env.scope.names.lookup x = some .free) (hd : (x == ("__debug__" : Str)) = false) (hcd : (x == ("__classdict__" : Str)) = false)
    (hc : c.env.cells.lookup x = some a) (hm : (a, O.cell (some V0)) ∈ σ) (h : K V0 σ) : Ev prog w S0 c (.Name x p) m σ K :=
  Op.of fun s R Q E k => by
    obtain ⟨u, hu, hz⟩ := cell_at R (mem_st hm)
    obtain ⟨v, rfl, hz⟩ := hz.some
    refine wpAny_Name ?_ hd
    rcases hk with hk | hk
    · exact wpAny_loadName_cell c.kind hk hc hu (k v V0 σ s R hz h)
    · exact wpAny_loadName_free c.kind hk hc hu (k v V0 σ s R hz h) hcd

/-- a global of the text, or a built-in -/
theorem ev_glob {mg mb : Str → Option Value} {x : Str} {p : Pos} {v : Value} (B : Bs S0 mg mb) (hk : c.env.scope.names.lookup x = some .globalImplicit) (hd : (x == ("__debug__" : Str)) = false) (hv : mg x = some v)
    {V0 : V} (hz : Rz V0 v) (h : K V0 σ) : Ev prog w S0 c (.Name x p) m σ K :=
  Op.of fun s R Q E k => Name_function_global c.kind hk (loadGlobal_global (c.glob ▸ B.g.keeps R.keep) hv (k v _ σ s R hz h)) hd
theorem ev_blt {mg mb : Str → Option Value} {x : Str} {p : Pos} {v : Value} (B : Bs S0 mg mb) (hk : c.env.scope.names.lookup x = some .globalImplicit) (hd : (x == ("__debug__" : Str)) = false) (hn : x ≠ "__name__") (hg : mg x = .none) (hv : bootBuiltins x = some v)
    (h : K (.abs v) σ) : Ev prog w S0 c (.Name x p) m σ K :=
  Op.of fun s R Q E k => Name_function_global c.kind hk (loadGlobal_builtin (c.glob ▸ B.g.keeps R.keep) hg (c.blt ▸ B.b.keeps R.keep) ((B.bb x hn).trans hv) (k v (.abs v) σ s R rfl h)) hd

/- operators -/
theorem ev_bin {l r : Expr} {op : Operator} {p : Pos} (h : Ev prog w S0 c l m σ fun x σ1 => Ev prog w S0 c r m σ1 fun y σ2 => Bin prog w S0 c m σ2 op x y K) : Ev prog w S0 c (.BinOp l op r p) m σ K :=
  Op.of fun s R Q E k => wpAny_BinOp (Op.get h s R _ E fun v x σ1 s1 R1 hx h1 => Op.get h1 s1 R1 _ E fun u y σ2 s2 R2 hy h2 => Op.get (h2 v u hx hy) s2 R2 Q E k)
theorem ev_cmp {l r : Expr} {op : CmpOp} {p : Pos} (h : Ev prog w S0 c l m σ fun x σ1 => Ev prog w S0 c r m σ1 fun y σ2 => Cmp prog w S0 c m σ2 op x y K)
    (hm : behindInMarks op r = false := by with_unfolding_all rfl) : Ev prog w S0 c (.Compare l [op] [r] p) m σ K :=
  Op.of fun s R Q E k => wpAny_Compare1 (Op.get h s R _ E fun v x σ1 s1 R1 hx h1 => Op.get h1 s1 R1 _ E fun u y σ2 s2 R2 hy h2 => Op.get (h2 v u hx hy) s2 R2 Q E k) hm


theorem ev_neg {e : Expr} {p : Pos} (h : Ev prog w S0 c e m σ fun x σ1 => ∃ i, x = .int i ∧ K (.int (-i)) σ1) : Ev prog w S0 c (.UnaryOp .USub e p) m σ K :=
  Op.of fun s R Q E k => by
    rw [arm_eval_UnaryOp]
    refine wpAny_bind (Op.get h s R _ E fun v x σ1 s1 R1 hx ⟨i, e, h1⟩ => wpAny_bind (wpAny_standAt (wpAny_holding ?_)))
    subst e
    obtain ⟨t, rfl⟩ := hx
    exact neg_int (k _ (.int (-i)) σ1 _ (R1.toks _) ⟨_, rfl⟩ h1)

section
variable {a b : Int}
theorem bin_add (h : K (.int (a + b)) σ) : Bin prog w S0 c m σ .Add (.int a) (.int b) K := by
  rintro _ _ ⟨tv, rfl⟩ ⟨tu, rfl⟩; exact Op.tok h fun s Q E k => add_int (k _ _ ⟨_, rfl⟩)
theorem bin_sub (h : K (.int (a - b)) σ) : Bin prog w S0 c m σ .Sub (.int a) (.int b) K := by
  rintro _ _ ⟨tv, rfl⟩ ⟨tu, rfl⟩; exact Op.tok h fun s Q E k => sub_int' (k _ _ ⟨_, rfl⟩)
theorem bin_mul (hm : IntMulOk a b) (h : K (.int (a * b)) σ) : Bin prog w S0 c m σ .Mult (.int a) (.int b) K := by
  rintro _ _ ⟨tv, rfl⟩ ⟨tu, rfl⟩; exact Op.tok h fun s Q E k => PyProof.Rows.mul_int (k _ _ ⟨_, rfl⟩) hm
theorem bin_mod (hb : b ≠ 0) (h : K (.int (a.fmod b)) σ) : Bin prog w S0 c m σ .Mod (.int a) (.int b) K := by
  rintro _ _ ⟨tv, rfl⟩ ⟨tu, rfl⟩; exact Op.tok h fun s Q E k => mod_int' hb (k _ _ ⟨_, rfl⟩)
theorem bin_div (hb : b ≠ 0) (hp : Builtin.divisionGoesByPylong a b = false) (h : K (.int (a.fdiv b)) σ) : Bin prog w S0 c m σ .FloorDiv (.int a) (.int b) K := by
  rintro _ _ ⟨tv, rfl⟩ ⟨tu, rfl⟩; exact Op.tok h fun s Q E k => floordiv_int hb (k _ _ ⟨_, rfl⟩) (.inl hp)
theorem bin_and (h : K (.int (Builtin.bitAnd a b)) σ) : Bin prog w S0 c m σ .BitAnd (.int a) (.int b) K := by
  rintro _ _ ⟨tv, rfl⟩ ⟨tu, rfl⟩; exact Op.tok h fun s Q E k => and_int (k _ _ ⟨_, rfl⟩)
theorem ibin_add (h : K (.int (a + b)) σ) : IBin prog w S0 c m σ .Add (.int a) (.int b) K := by
  rintro _ _ ⟨tv, rfl⟩ ⟨tu, rfl⟩; exact Op.tok h fun s Q E k => wpAny_iadd_int (k _ _ ⟨_, rfl⟩)
theorem ibin_sub (h : K (.int (a - b)) σ) : IBin prog w S0 c m σ .Sub (.int a) (.int b) K := by
  rintro _ _ ⟨tv, rfl⟩ ⟨tu, rfl⟩; exact Op.tok h fun s Q E k => PySem.P.isub_int (k _ _ ⟨_, rfl⟩)
theorem ibin_or (h : K (.int (Builtin.bitOr a b)) σ) : IBin prog w S0 c m σ .BitOr (.int a) (.int b) K := by
  rintro _ _ ⟨tv, rfl⟩ ⟨tu, rfl⟩; exact Op.tok h fun s Q E k => ior_int (k _ _ ⟨_, rfl⟩)
theorem ibin_shl (hb : 0 ≤ b) (hb2 : b ≤ 1000000) (ha : a.natAbs < 2 ^ 64) (h : K (.int (a * 2 ^ b.toNat)) σ) : IBin prog w S0 c m σ .LShift (.int a) (.int b) K := by
  rintro _ _ ⟨tv, rfl⟩ ⟨tu, rfl⟩; exact Op.tok h fun s Q E k => ilshift_int_small hb hb2 ha (k _ _ ⟨_, rfl⟩)
theorem cmp_eq (h : K (.bool (a == b)) σ) : Cmp prog w S0 c m σ .Eq (.int a) (.int b) K := by
  rintro _ _ ⟨tv, rfl⟩ ⟨tu, rfl⟩; exact Op.tok h fun s Q E k => PyProof.Rows.eq_int (k _ _ rfl)
theorem cmp_ne (h : K (.bool (a != b)) σ) : Cmp prog w S0 c m σ .NotEq (.int a) (.int b) K := by
  rintro _ _ ⟨tv, rfl⟩ ⟨tu, rfl⟩; exact Op.tok h fun s Q E k => PySem.P.ne_int (k _ _ rfl)
theorem cmp_lt (h : K (.bool (decide (a < b))) σ) : Cmp prog w S0 c m σ .Lt (.int a) (.int b) K := by
  rintro _ _ ⟨tv, rfl⟩ ⟨tu, rfl⟩; exact Op.tok h fun s Q E k => PySem.P.lt_int (k _ _ rfl)
theorem cmp_gt (h : K (.bool (decide (a > b))) σ) : Cmp prog w S0 c m σ .Gt (.int a) (.int b) K := by
  rintro _ _ ⟨tv, rfl⟩ ⟨tu, rfl⟩; exact Op.tok h fun s Q E k => PySem.P.gt_int (k _ _ rfl)
end
section
variable {x y : Str}
theorem bin_cat (hs : x.length + y.length ≤ sizeLine) (h : K (.str (x ++ y)) σ) : Bin prog w S0 c m σ .Add (.str x) (.str y) K := by
  rintro _ _ ⟨tv, rfl⟩ ⟨tu, rfl⟩; exact Op.tok h fun s Q E k => PyProof.Rows.add_str (fun t tk => k _ tk ⟨_, rfl⟩) hs
theorem cmp_seq (h : K (.bool (x == y)) σ) : Cmp prog w S0 c m σ .Eq (.str x) (.str y) K := by
  rintro _ _ ⟨tv, rfl⟩ ⟨tu, rfl⟩; exact Op.tok h fun s Q E k => PyProof.Rows.eq_str (k _ _ rfl)
theorem cmp_sne (h : K (.bool (x != y)) σ) : Cmp prog w S0 c m σ .NotEq (.str x) (.str y) K := by
  rintro _ _ ⟨tv, rfl⟩ ⟨tu, rfl⟩; exact Op.tok h fun s Q E k => PyProof.Rows.ne_str (k _ _ rfl)
end
end
end Mine
end

section
set_option maxRecDepth 10000
namespace Mine
section
variable {prog : Program} {w : World} {S0 : Shared} {c : Cx} {m : Ms} {σ : Sto}

/- tests -/
theorem Et.of {e : Expr} {K : Bool → Sto → Prop} (h : ∀ s, Rel S0 (c.st m σ) s → ∀ Q E, (∀ b σ' s', Rel S0 (c.st m σ') s' → K b σ' → Q b s') → wpAny (model prog w) c.A (isTrue e c.env (eval e c.env)) Q E s) : Et prog w S0 c e m σ K :=
  fun s R Q E k => h s R Q E fun b σ' s' R' hk => k b (c.st m σ') s' R' ⟨σ', Imp.rfl, hk⟩
theorem Et.get {e : Expr} {K : Bool → Sto → Prop} (h : Et prog w S0 c e m σ K) : ∀ s, Rel S0 (c.st m σ) s → ∀ Q E, (∀ b σ' s', Rel S0 (c.st m σ') s' → K b σ' → Q b s') → wpAny (model prog w) c.A (isTrue e c.env (eval e c.env)) Q E s :=
  fun s R Q E k => h s R Q E fun b τ s' R' ⟨σ', hi, hk⟩ => k b σ' s' (hi s' R') hk
theorem Tru.get {x : V} {K : Bool → Sto → Prop} (h : Tru prog w S0 c m σ x K) : ∀ v, Rz x v → ∀ s, Rel S0 (c.st m σ) s → ∀ Q E, (∀ b σ' s', Rel S0 (c.st m σ') s' → K b σ' → Q b s') → wpAny (model prog w) c.A (truthy v) Q E s :=
  fun v hv s R Q E k => h v hv s R Q E fun b τ s' R' ⟨σ', hi, hk⟩ => k b σ' s' (hi s' R') hk
theorem Tru.of {x : V} {K : Bool → Sto → Prop} (h : ∀ v, Rz x v → ∀ s, Rel S0 (c.st m σ) s → ∀ Q E, (∀ b σ' s', Rel S0 (c.st m σ') s' → K b σ' → Q b s') → wpAny (model prog w) c.A (truthy v) Q E s) : Tru prog w S0 c m σ x K :=
  fun v hv s R Q E k => h v hv s R Q E fun b σ' s' R' hk => k b (c.st m σ') s' R' ⟨σ', Imp.rfl, hk⟩

theorem tru_bool {b : Bool} {K : Bool → Sto → Prop} (h : K b σ) : Tru prog w S0 c m σ (.bool b) K :=
  Tru.of fun v hv s R Q E k => by obtain rfl : v = .bool b := hv; exact wpAny_truthy_bool (k b σ s R h)
theorem tru_none {K : Bool → Sto → Prop} (h : K false σ) : Tru prog w S0 c m σ .none K :=
  Tru.of fun v hv s R Q E k => by obtain rfl : v = .none := hv; exact truthy_none (k false σ s R h)
theorem tru_int {i : Int} {K : Bool → Sto → Prop} (h : K (i != 0) σ) : Tru prog w S0 c m σ (.int i) K :=
  Tru.of fun v hv s R Q E k => by obtain ⟨t, rfl⟩ := hv; exact PySem.P.truthy_int (k _ σ s R h)
theorem tru_str {x : Str} {K : Bool → Sto → Prop} (hfit : ¬ (x.length : Int) ≥ 2 ^ 63) (h : K ((x.length : Int) != 0) σ) : Tru prog w S0 c m σ (.str x) K :=
  Tru.of fun v hv s R Q E k => by obtain ⟨t, rfl⟩ := hv; exact PySem.P.truthy_str hfit (k _ σ _ (R.toks _) h)

theorem et_cmp {l r : Expr} {op : CmpOp} {p : Pos} {K : Bool → Sto → Prop}
    (h : Ev prog w S0 c l m σ fun x σ1 => Ev prog w S0 c r m σ1 fun y σ2 => Cmp prog w S0 c m σ2 op x y fun z σ3 => Tru prog w S0 c m σ3 z K)
    (hm : behindInMarks op r = false := by with_unfolding_all rfl) : Et prog w S0 c (.Compare l [op] [r] p) m σ K :=
  Et.of fun s R Q E k => wpAny_isTrue_Compare1 (Op.get h s R _ E fun v x σ1 s1 R1 hx h1 => Op.get h1 s1 R1 _ E fun u y σ2 s2 R2 hy h2 => Op.get (h2 v u hx hy) s2 R2 _ E
    fun z x' σ3 s3 R3 hz h3 => h3.get z hz s3 R3 Q E k) hm
theorem et_plain {e : Expr} {K : Bool → Sto → Prop} (h : Ev prog w S0 c e m σ fun x σ1 => Tru prog w S0 c m σ1 x K)
    (he : ∀ whole, isTrue e c.env whole = (do let v ← whole; standAt e.pos; holding [v] (truthy v)) := by intro _; rfl) : Et prog w S0 c e m σ K :=
  Et.of fun s R Q E k => isTrue_plain (Op.get h s R _ E fun v x σ1 s1 R1 hx h1 => h1.get v hx s1 R1 Q E k) (he _)
theorem et_not {e : Expr} {p : Pos} {K : Bool → Sto → Prop} (h : Et prog w S0 c e m σ fun b σ1 => K (!b) σ1) : Et prog w S0 c (.UnaryOp .Not e p) m σ K :=
  Et.of fun s R Q E k => isTrue_not (Et.get h s R _ E fun b σ1 s1 R1 h1 => k _ σ1 s1 R1 h1)
theorem et_and_nil {p : Pos} {K : Bool → Sto → Prop} (h : K true σ) : Et prog w S0 c (.BoolOp .And [] p) m σ K :=
  Et.of fun s R Q E k => isTrue_and_nil (k _ σ s R h)
theorem et_or_nil {p : Pos} {K : Bool → Sto → Prop} (h : K false σ) : Et prog w S0 c (.BoolOp .Or [] p) m σ K :=
  Et.of fun s R Q E k => isTrue_or_nil (k _ σ s R h)
theorem et_and {x : Expr} {rest : List Expr} {p : Pos} {K : Bool → Sto → Prop}
    (h : Et prog w S0 c x m σ fun b σ1 => (b = true → Et prog w S0 c (.BoolOp .And rest p) m σ1 K) ∧ (b = false → K false σ1)) : Et prog w S0 c (.BoolOp .And (x :: rest) p) m σ K :=
  Et.of fun s R Q E k => isTrue_and (Et.get h s R _ E fun b σ1 s1 R1 h1 => by
    cases b
    · exact k _ σ1 s1 R1 (h1.2 rfl)
    · exact Et.get (h1.1 rfl) s1 R1 Q E k)
theorem et_or {x : Expr} {rest : List Expr} {p : Pos} {K : Bool → Sto → Prop}
    (h : Et prog w S0 c x m σ fun b σ1 => (b = false → Et prog w S0 c (.BoolOp .Or rest p) m σ1 K) ∧ (b = true → K true σ1)) : Et prog w S0 c (.BoolOp .Or (x :: rest) p) m σ K :=
  Et.of fun s R Q E k => isTrue_or (Et.get h s R _ E fun b σ1 s1 R1 h1 => by
    cases b
    · exact Et.get (h1.1 rfl) s1 R1 Q E k
    · exact k _ σ1 s1 R1 (h1.2 rfl))

/- values of tests -/
theorem ev_if {t a b : Expr} {p : Pos} {K : V → Sto → Prop}
    (h : Et prog w S0 c t m σ fun x σ1 => (x = true → Ev prog w S0 c a m σ1 K) ∧ (x = false → Ev prog w S0 c b m σ1 K)) : Ev prog w S0 c (.IfExp t a b p) m σ K :=
  Op.of fun s R Q E k => by
    rw [arm_eval_IfExp]
    refine wpAny_bind (Et.get h s R _ E fun x σ1 s1 R1 h1 => ?_)
    cases x
    · exact Op.get (h1.2 rfl) s1 R1 Q E k
    · exact Op.get (h1.1 rfl) s1 R1 Q E k
theorem ev_bool1 {op : PySem.BoolOp} {x : Expr} {p : Pos} {K : V → Sto → Prop} (h : Ev prog w S0 c x m σ K) : Ev prog w S0 c (.BoolOp op [x] p) m σ K :=
  Op.of fun s R Q E k => by rw [arm_eval_BoolOp]; exact Op.get h s R Q E k
theorem ev_or {x y : Expr} {rest : List Expr} {p : Pos} {K : V → Sto → Prop}
    (h : Ev prog w S0 c x m σ fun v σ1 => Tru prog w S0 c m σ1 v fun b σ2 => (b = true → K v σ2) ∧ (b = false → Ev prog w S0 c (.BoolOp .Or (y :: rest) p) m σ2 K)) :
    Ev prog w S0 c (.BoolOp .Or (x :: y :: rest) p) m σ K :=
  Op.of fun s R Q E k => by
    rw [arm_eval_BoolOp]
    show wpAny _ _ (do let v ← eval x c.env; standAt p; let t ← holding [v] (truthy v); match BoolOp.Or, t with | .And, false | .Or, true => pure v | _, _ => boolOp p .Or (evalEach (y :: rest) c.env)) _ _ _
    refine wpAny_bind (Op.get h s R _ E fun v x σ1 s1 R1 hx h1 => wpAny_bind (wpAny_standAt (wpAny_bind (wpAny_holding (h1.get v hx s1 R1 _ E fun b σ2 s2 R2 h2 => ?_)))))
    cases b
    · have := Op.get (h2.2 rfl) s2 R2 Q E k
      rw [arm_eval_BoolOp] at this
      exact this
    · exact wpAny_pure (k v x σ2 s2 R2 hx (h2.1 rfl))

/- stores -/
theorem Sto1.of {n : Str} {x : V} {K : Ms → Sto → Prop} (h : ∀ v, Rz x v → ∀ s, Rel S0 (c.st m σ) s → ∀ Q E, (∀ m' σ' s', Rel S0 (c.st m' σ') s' → K m' σ' → Q () s') → wpAny (model prog w) c.A (storeName c.env n v) Q E s) : Sto1 prog w S0 c m σ n x K :=
  fun v hv s R Q E k => h v hv s R Q E fun m' σ' s' R' hk => k () (c.st m' σ') s' R' ⟨m', σ', Imp.rfl, hk⟩
theorem Sto1.get {n : Str} {x : V} {K : Ms → Sto → Prop} (h : Sto1 prog w S0 c m σ n x K) : ∀ v, Rz x v → ∀ s, Rel S0 (c.st m σ) s → ∀ Q E, (∀ m' σ' s', Rel S0 (c.st m' σ') s' → K m' σ' → Q () s') → wpAny (model prog w) c.A (storeName c.env n v) Q E s :=
  fun v hv s R Q E k => h v hv s R Q E fun _ τ s' R' ⟨m', σ', hi, hk⟩ => k m' σ' s' (hi s' R') hk

theorem nodup_get {l : List Str} (h : l.Nodup) {i j : Nat} {x : Str} (hi : l[i]? = some x) (hj : l[j]? = some x) : i = j := by
  obtain ⟨hi', ei⟩ := List.getElem?_eq_some_iff.mp hi
  obtain ⟨hj', ej⟩ := List.getElem?_eq_some_iff.mp hj
  exact (List.getElem_inj h).mp (ei.trans ej.symm)

/-- a local name is stored -/
theorem sto_loc {n : Str} {x : V} {i : Nat} {K : Ms → Sto → Prop} (hk : c.env.scope.names.lookup n = some .local) (hn : c.names[i]? = some n) (h : K ((i, x) :: m) σ) : Sto1 prog w S0 c m σ n x K :=
  Sto1.of fun v hv s R Q E k => by
    obtain ⟨mm, hns, hm⟩ := frame_ns R
    refine wpAny_storeName_local hk hns (fun h' hn' hs => k _ σ _ ?_ h) (by rw [c.kind]; rfl)
    obtain ⟨o, es, ep, ho, hd, hsk, hf⟩ := hn'
    refine Rel.upd (l1 := []) R hs ho ?_ _
    refine ⟨es, ep, hd, hsk, fun j y hj => ?_⟩
    rw [hf y]
    show RzO _ (if y = n then some v else mm y)
    by_cases hy : y = n
    · subst hy
      obtain rfl := nodup_get c.nd hn hj
      simp only [if_true, List.lookup_cons, beq_self_eq_true]
      exact hv
    · have hij : j ≠ i := by rintro rfl; rw [hn] at hj; exact hy (Option.some.inj hj).symm
      rw [if_neg hy, List.lookup_cons, beq_eq_false_iff_ne.mpr hij]
      exact hm j y hj

/-- a captured name is stored -/
theorem sto_cell {n : Str} {x : V} {a : Addr} {v0 : Option V} {σ' : Sto} {K : Ms → Sto → Prop} (hk : c.env.scope.names.lookup n = some .cell) (hc : c.env.cells.lookup n = some a) (hu : Upd a (.cell v0) (.cell (some x)) σ σ')
    (h : K m σ') : Sto1 prog w S0 c m σ n x K :=
  Sto1.of fun v hv s R Q E k => by
    obtain ⟨u, hcell, _⟩ := cell_at R (mem_st hu.mem)
    refine wpAny_storeName_cell c.kind hk hc hcell fun h' hv' hs => ?_
    obtain ⟨o, ho, hd⟩ := hv'
    have U : Upd a (.cell v0) (.cell (some x)) (c.st m σ) (c.st m σ') := .tail (hu.app _)
    exact k m σ' _ (Rel.put U R hs ho ⟨_, hd, hv⟩ s.toks) h

/- statements -/
theorem Ex.of {ss : List Stmt} {K : Fl → Ms → Sto → Prop} (h : ∀ s, Rel S0 (c.st m σ) s → ∀ Q E, (∀ f F m' σ' s', Rel S0 (c.st m' σ') s' → RzF F f → K F m' σ' → Q f s') → wpAny (model prog w) c.A (execs ss c.env) Q E s) : Ex prog w S0 c ss m σ K :=
  fun s R Q E k => h s R Q E fun f F m' σ' s' R' hf hk => k f (c.st m' σ') s' R' ⟨F, m', σ', hf, Imp.rfl, hk⟩
theorem Ex.get {ss : List Stmt} {K : Fl → Ms → Sto → Prop} (h : Ex prog w S0 c ss m σ K) : ∀ s, Rel S0 (c.st m σ) s → ∀ Q E, (∀ f F m' σ' s', Rel S0 (c.st m' σ') s' → RzF F f → K F m' σ' → Q f s') → wpAny (model prog w) c.A (execs ss c.env) Q E s :=
  fun s R Q E k => h s R Q E fun f τ s' R' ⟨F, m', σ', hf, hi, hk⟩ => k f F m' σ' s' (hi s' R') hf hk
theorem Ex1.of {st : Stmt} {K : Fl → Ms → Sto → Prop} (h : ∀ s, Rel S0 (c.st m σ) s → ∀ Q E, (∀ f F m' σ' s', Rel S0 (c.st m' σ') s' → RzF F f → K F m' σ' → Q f s') → wpAny (model prog w) c.A (exec st c.env) Q E s) : Ex1 prog w S0 c st m σ K :=
  fun s R Q E k => h s R Q E fun f F m' σ' s' R' hf hk => k f (c.st m' σ') s' R' ⟨F, m', σ', hf, Imp.rfl, hk⟩
theorem Ex1.get {st : Stmt} {K : Fl → Ms → Sto → Prop} (h : Ex1 prog w S0 c st m σ K) : ∀ s, Rel S0 (c.st m σ) s → ∀ Q E, (∀ f F m' σ' s', Rel S0 (c.st m' σ') s' → RzF F f → K F m' σ' → Q f s') → wpAny (model prog w) c.A (exec st c.env) Q E s :=
  fun s R Q E k => h s R Q E fun f τ s' R' ⟨F, m', σ', hf, hi, hk⟩ => k f F m' σ' s' (hi s' R') hf hk
theorem Ex.mono {ss : List Stmt} {K K' : Fl → Ms → Sto → Prop} (h : Ex prog w S0 c ss m σ K) (k : ∀ F m' σ', K F m' σ' → K' F m' σ') : Ex prog w S0 c ss m σ K' :=
  Tr.mono h fun f τ ⟨F, m', σ', a, b, d⟩ => ⟨F, m', σ', a, b, k _ _ _ d⟩

/-- what follows a statement -/
noncomputable def Then (prog : Program) (w : World) (S0 : Shared) (c : Cx) (rest : List Stmt) (K : Fl → Ms → Sto → Prop) : Fl → Ms → Sto → Prop
  | .next, m, σ => Ex prog w S0 c rest m σ K
  | F, m, σ => K F m σ

theorem ex_nil {K : Fl → Ms → Sto → Prop} (h : K .next m σ) : Ex prog w S0 c [] m σ K :=
  Ex.of fun s R Q E k => wpAny_execs_nil (k .next .next m σ s R rfl h)
theorem ex_cons {st : Stmt} {rest : List Stmt} {K : Fl → Ms → Sto → Prop} (h : Ex1 prog w S0 c st m σ (Then prog w S0 c rest K)) : Ex prog w S0 c (st :: rest) m σ K :=
  Ex.of fun s R Q E k => wpAny_execs_cons (Ex1.get h s R _ E fun f F m' σ' s' R' hf hk => by
    cases F with
    | next => obtain rfl : f = .next := hf; exact Ex.get hk s' R' Q E k
    | brk => obtain rfl : f = .brk := hf; exact k _ .brk m' σ' s' R' rfl hk
    | cont => obtain rfl : f = .cont := hf; exact k _ .cont m' σ' s' R' rfl hk
    | ret x => obtain ⟨v, rfl, hv⟩ := hf; exact k _ (.ret x) m' σ' s' R' ⟨v, rfl, hv⟩ hk)

/-- n = e -/
theorem ex_assign {n : Str} {p pos : Pos} {e : Expr} {rest : List Stmt} {K : Fl → Ms → Sto → Prop}
    (h : Ev prog w S0 c e m σ fun x σ1 => Sto1 prog w S0 c m σ1 n x fun m' σ2 => Ex prog w S0 c rest m' σ2 K)
    (hs : swapsWith e (some (.Name n p)) pos.line c.env = pure false := by rfl) : Ex prog w S0 c (.Assign [.Name n p] e pos :: rest) m σ K :=
  Ex.of fun s R Q E k => wpAny_execs_cons (wpAny_Assign_Name (Op.get h s R _ E fun v x σ1 s1 R1 hx h1 => h1.get v hx s1 R1 _ E fun m' σ2 s2 R2 h2 => Ex.get h2 s2 R2 Q E k) hs)
/-- a = b = e -/
theorem ex_assign2 {n1 n2 : Str} {p1 p2 pos : Pos} {e : Expr} {rest : List Stmt} {K : Fl → Ms → Sto → Prop}
    (h : Ev prog w S0 c e m σ fun x σ1 => Sto1 prog w S0 c m σ1 n1 x fun m1 σ2 => Sto1 prog w S0 c m1 σ2 n2 x fun m2 σ3 => Ex prog w S0 c rest m2 σ3 K) :
    Ex prog w S0 c (.Assign [.Name n1 p1, .Name n2 p2] e pos :: rest) m σ K :=
  Ex.of fun s R Q E k => wpAny_execs_cons (wpAny_Assign_two (Op.get h s R _ E fun v x σ1 s1 R1 hx h1 => wpAny_assign_Name (h1.get v hx s1 R1 _ E fun m' σ2 s2 R2 h2 =>
    wpAny_assign_Name (h2.get v hx s2 R2 _ E fun m2 σ3 s3 R3 h3 => Ex.get h3 s3 R3 Q E k))))
theorem ld_loc {x : Str} {i : Nat} {V0 : V} {K : V → Sto → Prop} (hk : c.env.scope.names.lookup x = some .local) (hd : (x == ("__debug__" : Str)) = false) (hn : c.names[i]? = some x) (hv : m.lookup i = some V0) (h : K V0 σ) :
    Op prog w S0 c m σ (loadName c.env x) K := Op.of fun s R Q E k => names_loc hd hk hn hv R fun v hz => k v V0 σ s R hz h
theorem ex_aug {n : Str} {p pos : Pos} {op : Operator} {e : Expr} {rest : List Stmt} {K : Fl → Ms → Sto → Prop}
    (h : Op prog w S0 c m σ (loadName c.env n) fun x σ1 => Ev prog w S0 c e m σ1 fun y σ2 => IBin prog w S0 c m σ2 op x y fun z σ3 => Sto1 prog w S0 c m σ3 n z fun m' σ4 => Ex prog w S0 c rest m' σ4 K) :
    Ex prog w S0 c (.AugAssign (.Name n p) op e pos :: rest) m σ K :=
  Ex.of fun s R Q E k => wpAny_execs_cons (wpAny_AugAssign_Name (Op.get h s R _ E
      fun v x σ1 s1 R1 hx h1 => Op.get h1 s1 R1 _ E fun u y σ2 s2 R2 hy h2 => Op.get (h2 v u hx hy) s2 R2 _ E fun r z σ3 s3 R3 hz h3 => h3.get r hz s3 R3 _ E fun m' σ4 s4 R4 h4 => Ex.get h4 s4 R4 Q E k))
theorem ex_expr {e : Expr} {pos : Pos} {rest : List Stmt} {K : Fl → Ms → Sto → Prop} (h : Ev prog w S0 c e m σ fun x σ1 => Ex prog w S0 c rest m σ1 K)
    (hi : interactive c.env = false := by rfl) (hs : swapsWith e none pos.line c.env = pure false := by rfl) : Ex prog w S0 c (.Expr e pos :: rest) m σ K :=
  Ex.of fun s R Q E k => wpAny_execs_cons (wpAny_Expr_any (Op.get h s R _ E fun v x σ1 s1 R1 hx h1 => Ex.get h1 s1 R1 Q E k) hi hs)
theorem ex_ret {e : Expr} {pos : Pos} {rest : List Stmt} {K : Fl → Ms → Sto → Prop} (h : Ev prog w S0 c e m σ fun x σ1 => K (.ret x) m σ1) : Ex prog w S0 c (.Return (some e) pos :: rest) m σ K :=
  Ex.of fun s R Q E k => wpAny_execs_cons (wpAny_Return_some (Op.get h s R _ E fun v x σ1 s1 R1 hx h1 => k _ (.ret x) m σ1 s1 R1 ⟨v, rfl, hx⟩ h1))
theorem ex_brk {pos : Pos} {rest : List Stmt} {K : Fl → Ms → Sto → Prop} (h : K .brk m σ) : Ex prog w S0 c (.Break pos :: rest) m σ K :=
  Ex.of fun s R Q E k => wpAny_execs_cons (wpAny_Break (k _ .brk m σ s R rfl h))
theorem ex_if {t : Expr} {a b : List Stmt} {pos : Pos} {rest : List Stmt} {K : Fl → Ms → Sto → Prop}
    (h : Et prog w S0 c t m σ fun x σ1 => (x = true → Ex prog w S0 c a m σ1 (Then prog w S0 c rest K)) ∧ (x = false → Ex prog w S0 c b m σ1 (Then prog w S0 c rest K))) : Ex prog w S0 c (.If t a b pos :: rest) m σ K := by
  refine ex_cons (Ex1.of fun s R Q E k => wpAny_If (Et.get h s R _ E fun x σ1 s1 R1 h1 => ?_))
  cases x
  · exact Ex.get (h1.2 rfl) s1 R1 Q E k
  · exact Ex.get (h1.1 rfl) s1 R1 Q E k
end
end Mine
end

section
open PySem.Builtin PySem.Builtin.Str
set_option maxRecDepth 10000
namespace Mine
section
variable {prog : Program} {w : World} {S0 : Shared} {c : Cx} {m : Ms} {σ : Sto} {K : V → Sto → Prop}

/- lists in the store -/
theorem list_at {a : Addr} {xs : List V} {τ : Sto} {s : Shared} (R : Rel S0 τ s) (hm : (a, O.list xs) ∈ τ) : ∃ vs n, IsL s.heap a vs.toArray n ∧ RzL xs vs := by
  obtain ⟨_, o, ho, vs, n, rfl, hz⟩ := R.objs _ hm
  exact ⟨vs, n, ho, hz⟩
theorem tuple_at {a : Addr} {xs : List V} {τ : Sto} {s : Shared} (R : Rel S0 τ s) (hm : (a, O.tuple xs) ∈ τ) : ∃ vs n, s.heap.get? a = some ⟨.type "tuple", .none, .seq vs.toArray n, #[]⟩ ∧ RzL xs vs := by
  obtain ⟨_, o, ho, vs, n, rfl, hz⟩ := R.objs _ hm
  exact ⟨vs, n, ho, hz⟩

theorem st_new {a : Addr} {x : O} : Imp S0 ((a, x) :: c.st m σ) (c.st m ((a, x) :: σ)) := by
  refine Imp.perm ?_
  unfold Cx.st
  refine (List.Perm.swap ..).trans (.cons _ ?_)
  exact List.perm_middle.symm

/-- a new object -/
theorem Rel.new {s : Shared} (R : Rel S0 (c.st m σ) s) {o : Obj} {x : O} (hx : OR x o) (hf : o.isFreed = false) (t : Nat) : Rel S0 (c.st m ((s.heap.objs.size, x) :: σ)) { s with heap := s.heap.push o, toks := t } :=
  st_new _ (R.alloc hx hf t)

/- displays -/
noncomputable def Evs (prog : Program) (w : World) (S0 : Shared) (c : Cx) (pos : Pos) (es : List Expr) (m : Ms) (σ : Sto) (K : List V → Sto → Prop) : Prop :=
  Tr prog w S0 c.A (c.st m σ) (spliced (backTo pos (starEach es c.env))) fun vs τ => ∃ xs σ', RzL xs vs ∧ Imp S0 τ (c.st m σ') ∧ K xs σ'
theorem Evs.of {pos : Pos} {es : List Expr} {K : List V → Sto → Prop} (h : ∀ s, Rel S0 (c.st m σ) s → ∀ Q E, (∀ vs xs σ' s', Rel S0 (c.st m σ') s' → RzL xs vs → K xs σ' → Q vs s') → wpAny (model prog w) c.A (spliced (backTo pos (starEach es c.env))) Q E s) : Evs prog w S0 c pos es m σ K :=
  fun s R Q E k => h s R Q E fun vs xs σ' s' R' hz hk => k vs (c.st m σ') s' R' ⟨xs, σ', hz, Imp.rfl, hk⟩
theorem Evs.get {pos : Pos} {es : List Expr} {K : List V → Sto → Prop} (h : Evs prog w S0 c pos es m σ K) : ∀ s, Rel S0 (c.st m σ) s → ∀ Q E, (∀ vs xs σ' s', Rel S0 (c.st m σ') s' → RzL xs vs → K xs σ' → Q vs s') → wpAny (model prog w) c.A (spliced (backTo pos (starEach es c.env))) Q E s :=
  fun s R Q E k => h s R Q E fun vs τ s' R' ⟨xs, σ', hz, hi, hk⟩ => k vs xs σ' s' (hi s' R') hz hk
theorem evs_nil {pos : Pos} {K : List V → Sto → Prop} (h : K [] σ) : Evs prog w S0 c pos [] m σ K :=
  Evs.of fun s R Q E k => spliced_nil (k [] [] σ s R trivial h)
theorem evs_cons {pos : Pos} {e : Expr} {es : List Expr} {K : List V → Sto → Prop} (h : Ev prog w S0 c e m σ fun x σ1 => Evs prog w S0 c pos es m σ1 fun xs σ2 => K (x :: xs) σ2)
    (hs : starEach (e :: es) c.env = (false, eval e c.env) :: starEach es c.env := by rfl) : Evs prog w S0 c pos (e :: es) m σ K :=
  Evs.of fun s R Q E k => by
    rw [hs]
    show wpAny _ _ (spliced ((false, eval e c.env) :: backTo pos (starEach es c.env))) _ _ _
    exact spliced_cons (Op.get h s R _ E fun v x σ1 s1 R1 hx h1 => Evs.get h1 s1 R1 _ E fun vs xs σ2 s2 R2 hxs h2 => k (v :: vs) (x :: xs) σ2 s2 R2 ⟨hx, hxs⟩ h2)

theorem ev_list {es : List Expr} {pos : Pos} (h : Evs prog w S0 c pos es m σ fun xs σ1 => xs.length ≤ sizeLine ∧ ∀ a, K (.ref a) ((a, .list xs) :: σ1)) : Ev prog w S0 c (.List es pos) m σ K :=
  Op.of fun s R Q E k => List_ (Evs.get h s R _ E fun vs xs σ1 s1 R1 hxs h1 =>
    wpAny_newObj_type (k _ (.ref s1.heap.objs.size) _ _ (R1.new (x := .list xs) ⟨vs, 0, rfl, hxs⟩ rfl _) rfl (h1.2 _))
      (by show vs.toArray.size ≤ sizeLine; rw [List.size_toArray, ← hxs.length]; exact h1.1))
theorem ev_tuple {es : List Expr} {n : Nat} {pos : Pos} (h : Evs prog w S0 c pos es m σ fun xs σ1 => xs.length ≤ sizeLine ∧ ∀ a, K (.ref a) ((a, .tuple xs) :: σ1)) : Ev prog w S0 c (.Tuple es n pos) m σ K :=
  Op.of fun s R Q E k => Tuple_ (Evs.get h s R _ E fun vs xs σ1 s1 R1 hxs h1 =>
    wpAny_newObj_type (k _ (.ref s1.heap.objs.size) _ _ (R1.new (x := .tuple xs) ⟨vs, 0, rfl, hxs⟩ rfl _) rfl (h1.2 _))
      (by show vs.toArray.size ≤ sizeLine; rw [List.size_toArray, ← hxs.length]; exact h1.1))

/- list + list -/
theorem bin_lcat {a b : Addr} {xs ys : List V} (ha : (a, O.list xs) ∈ σ) (hb : (b, O.list ys) ∈ σ) (hs : xs.length + ys.length ≤ sizeLine) (h : ∀ d, K (.ref d) ((d, .list (xs ++ ys)) :: σ)) : Bin prog w S0 c m σ .Add (.ref a) (.ref b) K := by
  rintro _ _ rfl rfl
  refine Op.of fun s R Q E k => ?_
  obtain ⟨vs, n, hl, hz⟩ := list_at R (mem_st ha)
  obtain ⟨us, n', hl', hz'⟩ := list_at R (mem_st hb)
  refine PySem.P.add_list hl hl' (k _ (.ref s.heap.objs.size) _ _ (R.new (x := .list (xs ++ ys)) ⟨vs ++ us, 0, by simp, hz.append hz'⟩ rfl s.toks) rfl (h _)) ?_
  rw [List.size_toArray, List.size_toArray, ← hz.length, ← hz'.length]; exact hs

/- subscripts -/
noncomputable def Sub (prog : Program) (w : World) (S0 : Shared) (c : Cx) (m : Ms) (σ : Sto) (value slice : Expr) (x y : V) (K : V → Sto → Prop) : Prop :=
  ∀ v u, Rz x v → Rz y u → Op prog w S0 c m σ (subscriptTail value slice v u) K
theorem ev_sub {value slice : Expr} {p : Pos} (h : Ev prog w S0 c value m σ fun x σ1 => Ev prog w S0 c slice m σ1 fun y σ2 => Sub prog w S0 c m σ2 value slice x y K) : Ev prog w S0 c (.Subscript value slice p) m σ K :=
  Op.of fun s R Q E k => Subscript_ (Op.get h s R _ E fun v x σ1 s1 R1 hx h1 => Op.get h1 s1 R1 _ E fun u y σ2 s2 R2 hy h2 => Op.get (h2 v u hx hy) s2 R2 Q E k)

/-- which item an index means -/
noncomputable def ix (n : Nat) (i : Int) : Nat := (if i < 0 then i + n else i).toNat

theorem sub_list {value slice : Expr} {a : Addr} {xs : List V} {i : Int} {x : V} (ha : (a, O.list xs) ∈ σ) (h0 : -(xs.length : Int) ≤ i) (hf : i < 2 ^ 63) (hl0 : xs.length < 2 ^ 63) (hx : xs[ix xs.length i]? = some x) (h : K x σ)
    (hs : ∀ a t, subscripted slice false (.ref a) (.int i t) = operate [.ref a, .int i t] (getItem (.ref a) (.int i t)) := by intro _ _; with_unfolding_all rfl) : Sub prog w S0 c m σ value slice (.ref a) (.int i) K := by
  rintro _ _ rfl ⟨t, rfl⟩
  refine Op.of fun s R Q E k => ?_
  obtain ⟨vs, n, hl, hz⟩ := list_at R (mem_st ha)
  obtain ⟨v, hv, hzv⟩ := hz.get hx
  refine tail_any hl.isList.typeIs slot_list_getitem.lookup ?_ (hs _ _)
  unfold ix at hv
  by_cases hi : i < 0
  · rw [if_pos hi, hz.length] at hv
    exact wpAny_getItem_list_neg hl.isList hi (by rw [List.size_toArray, ← hz.length]; exact h0) (by omega) (by simpa using hv) (k v x σ s R hzv h)
  · rw [if_neg hi] at hv
    exact wpAny_getItem_list hl.isList (by omega) hf (by simpa using hv) (k v x σ s R hzv h)

theorem sub_tuple {value slice : Expr} {a : Addr} {xs : List V} {i : Nat} {x : V} (ha : (a, O.tuple xs) ∈ σ) (hf : (i : Int) < 2 ^ 63) (hx : xs[i]? = some x) (h : K x σ)
    (hs : ∀ a t, subscripted slice false (.ref a) (.int i t) = operate [.ref a, .int i t] (getItem (.ref a) (.int i t)) := by intro _ _; with_unfolding_all rfl) : Sub prog w S0 c m σ value slice (.ref a) (.int i) K := by
  rintro _ _ rfl ⟨t, rfl⟩
  refine Op.of fun s R Q E k => ?_
  obtain ⟨vs, n, hl, hz⟩ := tuple_at R (mem_st ha)
  obtain ⟨v, hv, hzv⟩ := hz.get hx
  have hlt := (List.getElem?_eq_some_iff.mp hv).1
  refine item_tupleT (j := i) ⟨_, hl, rfl, n, rfl⟩ (by omega) hf ?_ hv (k v x σ s R hzv h) (hs _ _)
  rw [seqIndex_of (by omega) (by omega)]; simp

theorem sub_str {value slice : Expr} {x : Str} {i : Int} {cp : Nat} (hr : fitsSsize i = true) (hx : Txt.charAt x i = some cp) (h : K (.str ⟨#[cp]⟩) σ)
    (hs : ∀ u t, subscripted slice false (.str x u) (.int i t) = operate [.str x u, .int i t] (getItem (.str x u) (.int i t)) := by intro _ _; with_unfolding_all rfl) : Sub prog w S0 c m σ value slice (.str x) (.int i) K := by
  rintro _ _ ⟨u, rfl⟩ ⟨t, rfl⟩
  refine Op.tok h fun s Q E k => ?_
  refine tail_any (typeIs_str s x u) F.slot_str_getitem.lookup (SB.getItem hr (by rw [hx]; rfl) (k _ _ ?_)) (hs _ _)
  exact ⟨_, by rw [show Txt.item x i = ⟨#[cp]⟩ by unfold Txt.item; rw [hx]; rfl]⟩

/- slices -/
noncomputable def Pt (prog : Program) (w : World) (S0 : Shared) (c : Cx) (m : Ms) (σ : Sto) (e : Option Expr) (K : Option Int → Sto → Prop) : Prop :=
  Tr prog w S0 c.A (c.st m σ) (evalPart e c.env) fun v τ => ∃ k σ', IsPart v k ∧ Imp S0 τ (c.st m σ') ∧ K k σ'
theorem Pt.get {e : Option Expr} {K : Option Int → Sto → Prop} (h : Pt prog w S0 c m σ e K) : ∀ s, Rel S0 (c.st m σ) s → ∀ Q E, (∀ v i σ' s', Rel S0 (c.st m σ') s' → IsPart v i → K i σ' → Q v s') → wpAny (model prog w) c.A (evalPart e c.env) Q E s :=
  fun s R Q E k => h s R Q E fun v τ s' R' ⟨i, σ', hz, hi, hk⟩ => k v i σ' s' (hi s' R') hz hk
theorem pt_none {K : Option Int → Sto → Prop} (h : K .none σ) : Pt prog w S0 c m σ .none K :=
  fun s R Q E k => wpAny_pure (k _ _ s R ⟨_, σ, .none, Imp.rfl, h⟩)
theorem pt_some {e : Expr} {K : Option Int → Sto → Prop} (h : Ev prog w S0 c e m σ fun x σ1 => (∃ i, x = .int i ∧ K (some i) σ1) ∨ (x = .none ∧ K .none σ1)) : Pt prog w S0 c m σ (some e) K :=
  fun s R Q E k => Op.get h s R Q E fun v x σ1 s1 R1 hx h1 => by
    rcases h1 with ⟨i, rfl, h1⟩ | ⟨rfl, h1⟩
    · obtain ⟨t, rfl⟩ := hx; exact k _ _ s1 R1 ⟨_, σ1, .int i t, Imp.rfl, h1⟩
    · obtain rfl : v = .none := hx; exact k _ _ s1 R1 ⟨_, σ1, .none, Imp.rfl, h1⟩

noncomputable def cut {α : Type} (xs : List α) (lo hi : Option Int) : List α := (xs.drop (lo.elim 0 (clipAt xs.length))).take (hi.elim xs.length (clipAt xs.length) - lo.elim 0 (clipAt xs.length))
theorem RzL.drop {xs : List V} {vs : List Value} (h : RzL xs vs) : ∀ n, RzL (xs.drop n) (vs.drop n)
  | 0 => h
  | n + 1 => by
    cases xs with
    | nil => cases vs with | nil => trivial | cons => exact h.elim
    | cons x xs => cases vs with | nil => exact h.elim | cons v vs => exact RzL.drop h.2 n
theorem RzL.take {xs : List V} {vs : List Value} (h : RzL xs vs) : ∀ n, RzL (xs.take n) (vs.take n)
  | 0 => by simp only [List.take_zero]; trivial
  | n + 1 => by
    cases xs with
    | nil => cases vs with | nil => trivial | cons => exact h.elim
    | cons x xs => cases vs with | nil => exact h.elim | cons v vs => exact ⟨h.1, RzL.take h.2 n⟩
theorem RzL.cut {xs : List V} {vs : List Value} (h : RzL xs vs) (lo hi : Option Int) : RzL (cut xs lo hi) (Mine.cut vs lo hi) := by
  unfold Mine.cut; rw [h.length]; exact (h.drop _).take _

theorem slice_pick (vs : List Value) (lo hi : Option Int) : slicePick vs.toArray lo hi .none = (cut vs lo hi).toArray := by
  rw [slicePick_plain]; simp only [List.size_toArray]; rfl

/-- a slice of a list -/
theorem ev_lslice {value : Expr} {lower upper : Option Expr} {p pos : Pos}
    (h : Ev prog w S0 c value m σ fun x σ1 => Pt prog w S0 c m σ1 lower fun lo σ2 => Pt prog w S0 c m σ2 upper fun hi σ3 =>
      ∃ a xs, x = .ref a ∧ (a, O.list xs) ∈ σ3 ∧ xs.length ≤ sizeLine ∧ ∀ d, K (.ref d) ((d, .list (cut xs lo hi)) :: σ3)) : Ev prog w S0 c (.Subscript value (.Slice lower upper .none p) pos) m σ K :=
  Op.of fun s R Q E k => by
    rw [eval_Subscript]
    refine wpAny_bind (Op.get h s R _ E fun v x σ1 s1 R1 hx h1 => wpAny_bind (wpAny_holding (wpAny_Slice (h1.get s1 R1 _ E fun vl lo σ2 s2 R2 hlo h2 => h2.get s2 R2 _ E fun vu hi σ3 s3 R3 hhi h3 => wpAny_pure (wpAny_bind (wpAny_standAt ?_))))))
    obtain ⟨a, xs, rfl, ha, hsz, h4⟩ := h3
    obtain rfl : v = .ref a := hx
    obtain ⟨vs, n, hl, hz⟩ := list_at R3 (mem_st ha)
    show wpAny _ _ (subscriptTail value (.Slice lower upper .none p) (.ref a) (.ref s3.heap.objs.size)) _ _ _
    refine tail_any (hl.push _).isList.typeIs slot_list_getitem.lookup (wpAny_getItem_list_slice (hl.push _).isList (Heap.IsSliceOf.new ..) hlo hhi .none (by simp) ?_ ?_) (by with_unfolding_all rfl)
    · rw [slice_pick]
      have G := (R3.grow (h' := s3.heap.push { cls := .type "slice", data := .fields #[vl, vu, .none] }) (fun b o e => Heap.get?_push_of_some _ e) s3.toks)
      exact k _ (.ref _) _ _ (Rel.new G (x := .list (cut xs lo hi)) ⟨_, 0, rfl, hz.cut lo hi⟩ rfl s3.toks) rfl (h4 _)
    · rw [List.size_toArray, ← hz.length]; exact hsz

theorem part_val {v : Value} {k : Option Int} (h : IsPart v k) : ∃ l, v = partValue l ∧ l.map (·.1) = k := by
  cases h with
  | none => exact ⟨.none, rfl, rfl⟩
  | int i t => exact ⟨some (i, t), rfl, rfl⟩

/-- a slice of a text -/
theorem ev_sslice {value : Expr} {lower upper : Option Expr} {p pos : Pos}
    (h : Ev prog w S0 c value m σ fun x σ1 => Pt prog w S0 c m σ1 lower fun lo σ2 => Pt prog w S0 c m σ2 upper fun hi σ3 =>
      ∃ y : Str, x = .str y ∧ y.length ≤ sizeLine ∧ K (.str (Txt.slice y lo hi)) σ3) : Ev prog w S0 c (.Subscript value (.Slice lower upper .none p) pos) m σ K :=
  Op.of fun s R Q E k => by
    rw [eval_Subscript]
    refine wpAny_bind (Op.get h s R _ E fun v x σ1 s1 R1 hx h1 => wpAny_bind (wpAny_holding (wpAny_Slice (h1.get s1 R1 _ E fun vl lo σ2 s2 R2 hlo h2 => h2.get s2 R2 _ E fun vu hi σ3 s3 R3 hhi h3 => wpAny_pure (wpAny_bind (wpAny_standAt ?_))))))
    obtain ⟨y, rfl, hsz, h4⟩ := h3
    obtain ⟨t, rfl⟩ := hx
    obtain ⟨l, rfl, el⟩ := part_val hlo
    obtain ⟨u, rfl, eu⟩ := part_val hhi
    show wpAny _ _ (subscriptTail value (.Slice lower upper .none p) (.str y t) (.ref s3.heap.objs.size)) _ _ _
    refine tail_any (typeIs_str _ _ _) F.slot_str_getitem.lookup (wpAny_getItem_str_slice (l := l) (u := u) (st := .none) ⟨_, Heap.get?_push_size _ rfl, rfl, rfl⟩ rfl ?_) (by with_unfolding_all rfl)
    have e : sliceMade y t l u .none = (if ((1 : Int) == 1 && (strSliceIndices lo hi 1 y.length).length == y.length) = true then Made.val (.str y t) else Made.str ⟨((strSliceIndices lo hi 1 y.length).filterMap (y.cps[·]?)).toArray⟩) := by
      subst el; subst eu; rfl
    rw [e]
    refine post_val_or_str ⟨Nat.le_trans (Txt.slice_le y lo hi) hsz, fun t' tk => ?_⟩
    have G := (R3.grow (h' := s3.heap.push { cls := .type "slice", data := .fields #[partValue l, partValue u, .none] }) (fun b o e => Heap.get?_push_of_some _ e) tk)
    exact k _ (.str (Txt.slice y lo hi)) _ _ G ⟨_, rfl⟩ h4
end
end Mine
end

section
set_option maxRecDepth 10000
namespace Mine

noncomputable def FrOk (names : List Str) (m : Ms) (f : Str → Option Value) : Prop := ∀ i x, names[i]? = some x → RzO (m.lookup i) (f x)
theorem FrOk.empty {names : List Str} : FrOk names [] fun _ => .none := fun _ _ _ => trivial
theorem FrOk.set {names : List Str} {m : Ms} {f : Str → Option Value} (h : FrOk names m f) (nd : names.Nodup) {i : Nat} {n : Str} {x : V} {v : Value} (hn : names[i]? = some n) (hv : Rz x v) :
    FrOk names ((i, x) :: m) fun y => if y = n then some v else f y := fun j y hj => by
  show RzO _ (if y = n then some v else f y)
  by_cases hy : y = n
  · subst hy
    obtain rfl := nodup_get nd hn hj
    simp only [if_true, List.lookup_cons, beq_self_eq_true]
    exact hv
  · have hij : j ≠ i := by rintro rfl; rw [hn] at hj; exact hy (Option.some.inj hj).symm
    rw [if_neg hy, List.lookup_cons, beq_eq_false_iff_ne.mpr hij]
    exact h j y hj
theorem FrOk.other {names : List Str} {m : Ms} {f : Str → Option Value} (h : FrOk names m f) {n : Str} {v : Value} (hn : n ∉ names) :
    FrOk names m fun y => if y = n then some v else f y := fun j y hj => by
  have hy : y ≠ n := by rintro rfl; exact hn (List.mem_of_getElem? hj)
  show RzO _ (if y = n then some v else f y)
  rw [if_neg hy]; exact h j y hj

/-- where the arguments go: the frame's slots -/
noncomputable def bindMs (kindOf : Str → Option NameKind) (names : List Str) : List (Str × V) → Ms → Ms
  | [], m => m
  | (n, x) :: r, m => bindMs kindOf names r (if kindOf n = some .local then (names.idxOf n, x) :: m else m)
/-- and the cells -/
noncomputable def bindCs (kindOf : Str → Option NameKind) : List (Str × V) → (Str → Option V) → Str → Option V
  | [], m => m
  | (n, x) :: r, m => bindCs kindOf r (if kindOf n = some .local then m else fun y => if y = n then some x else m y)

theorem bindMs_ok {kindOf : Str → Option NameKind} {names : List Str} (nd : names.Nodup) : ∀ {xs : List (Str × V)} {bs : List (Str × Value)} {m : Ms} {f : Str → Option Value},
    xs.map (·.1) = bs.map (·.1) → RzL (xs.map (·.2)) (bs.map (·.2)) → (∀ x ∈ xs, kindOf x.1 = some .local → x.1 ∈ names) → FrOk names m f → FrOk names (bindMs kindOf names xs m) (bindL kindOf bs f)
  | [], [], _, _, _, _, _, h => h
  | (n, x) :: xs, (n', v) :: bs, m, f, e, hz, hin, h => by
    simp only [List.map_cons, List.cons.injEq] at e
    obtain ⟨rfl, e⟩ := e
    unfold bindMs bindL
    refine bindMs_ok nd e hz.2 (fun y hy => hin y (.tail _ hy)) ?_
    by_cases hk : kindOf n = some .local
    · rw [if_pos hk, if_pos hk]
      have hm := hin (n, x) (.head _) hk
      refine h.set nd ?_ hz.1
      have hlt := List.idxOf_lt_length_of_mem hm
      rw [List.getElem?_eq_getElem hlt, List.getElem_idxOf]
    · rw [if_neg hk, if_neg hk]; exact h
  | [], _ :: _, _, _, e, _, _, _ => by simp at e
  | _ :: _, [], _, _, e, _, _, _ => by simp at e
theorem bindCs_ok {kindOf : Str → Option NameKind} : ∀ {xs : List (Str × V)} {bs : List (Str × Value)} {g : Str → Option V} {f : Str → Option Value},
    xs.map (·.1) = bs.map (·.1) → RzL (xs.map (·.2)) (bs.map (·.2)) → (∀ x, RzO (g x) (f x)) → ∀ x, RzO (bindCs kindOf xs g x) (bindC kindOf bs f x)
  | [], [], _, _, _, _, h => h
  | (n, x) :: xs, (n', v) :: bs, g, f, e, hz, h => by
    simp only [List.map_cons, List.cons.injEq] at e
    obtain ⟨rfl, e⟩ := e
    unfold bindCs bindC
    refine bindCs_ok e hz.2 fun y => ?_
    by_cases hk : kindOf n = some .local
    · rw [if_pos hk, if_pos hk]; exact h y
    · rw [if_neg hk, if_neg hk]
      show RzO (if y = n then some x else g y) (if y = n then some v else f y)
      by_cases hy : y = n
      · rw [if_pos hy, if_pos hy]; exact hz.1
      · rw [if_neg hy, if_neg hy]; exact h y
  | [], _ :: _, _, _, e, _, _ => by simp at e
  | _ :: _, [], _, _, e, _, _ => by simp at e

noncomputable def cellObjs (cs : List (Str × Addr)) (g : Str → Option V) : Sto := cs.map fun p => (p.2, .cell (g p.1))

theorem Rel.enter {S0 : Shared} {τ : Sto} {s s₁ : Shared} (R : Rel S0 τ s) {names : List Str} {m : Ms} {f cm : Str → Option Value} {g : Str → Option V} {cs : List (Str × Addr)} (X : InCallC s s.heap.objs.size f cs cm s₁)
    (hm : FrOk names m f) (hnd : (cs.map (·.1)).Nodup) (hg : ∀ x, RzO (g x) (cm x)) : Rel S0 ((s.heap.objs.size, .frame names m) :: (cellObjs cs g ++ τ)) s₁ := by
  obtain ⟨h', tk, e, k⟩ := X.done
  have Rg : Rel S0 τ s₁ := by rw [e]; exact R.grow k tk
  have hL : S0.heap.get? s.heap.objs.size = .none := R.fresh
  have big : ∀ a, s.heap.objs.size ≤ a → S0.heap.get? a = .none := fun a ha => by
    cases q : S0.heap.get? a with
    | none => rfl
    | some o => exact absurd (Nat.lt_of_lt_of_le (Heap.lt_size (R.keep _ _ q)) ha) (Nat.lt_irrefl _)
  have cmem : ∀ p, p ∈ cellObjs cs g → ∃ n, (n, p.1) ∈ cs ∧ p.2 = .cell (g n) := fun p hp => by
    obtain ⟨q, hq, rfl⟩ := List.mem_map.mp hp
    exact ⟨q.1, hq, rfl⟩
  refine ⟨Rg.gens, Rg.os, Rg.keep, ?_, fun p hp => ?_⟩
  · rw [List.map_cons, List.nodup_cons, List.map_append, List.nodup_append]
    refine ⟨fun hx => ?_, ?_, Rg.nodup, fun a ha b hb => ?_⟩
    · rcases List.mem_append.mp hx with hx | hx
      · obtain ⟨p, hp, e⟩ := List.mem_map.mp hx
        obtain ⟨n, hn, _⟩ := cmem p hp
        have := X.above n p.1 hn
        rw [e] at this; exact Nat.lt_irrefl _ this
      · obtain ⟨p, hp, e⟩ := List.mem_map.mp hx
        have := R.lt hp
        rw [e] at this; exact Nat.lt_irrefl _ this
    · unfold cellObjs
      rw [List.map_map]
      show (cs.map fun p => p.2).Nodup
      rw [List.nodup_iff_pairwise_ne, List.pairwise_map]
      exact X.apart
    · obtain ⟨p, hp, rfl⟩ := List.mem_map.mp ha
      obtain ⟨q, hq, rfl⟩ := List.mem_map.mp hb
      obtain ⟨n, hn, _⟩ := cmem p hp
      exact Nat.ne_of_gt (Nat.lt_trans (R.lt hq) (X.above n p.1 hn))
  · rcases List.mem_cons.mp hp with rfl | hp
    · refine ⟨hL, ?_⟩
      obtain ⟨o, es, ep, ho, hd, hk, hf⟩ := X.toInCall.ns
      exact ⟨o, ho, es, ep, hd, hk, fun i x hx => by rw [hf x]; exact hm i x hx⟩
    · rcases List.mem_append.mp hp with hp | hp
      · obtain ⟨n, hn, e2⟩ := cmem p hp
        have hlk : cs.lookup n = some p.1 := lookup_of_mem_nodup hnd hn
        obtain ⟨o, ho, hd⟩ := X.cell n p.1 hlk
        refine ⟨big _ (Nat.le_of_lt (X.above n p.1 hn)), o, ho, ?_⟩
        rw [e2]
        exact ⟨_, hd, hg n⟩
      · exact Rg.objs p hp

section
variable (prog : Program) (w : World) (S0 : Shared)
noncomputable def Kpr (f : V) : Prop := ∀ fv, Rz f fv → ∃ k, (k = Keeper.frame ∨ k = Keeper.machine ∨ k = Keeper.boundFrame) ∧ Looks (model prog w) S0.heap (keeperOf fv) k
noncomputable def Cal (c : Cx) (m : Ms) (σ : Sto) (f : V) (xs : List V) (kws : List (Str × V)) (K : V → Sto → Prop) : Prop :=
  ∀ fv vs ks, Rz f fv → RzL xs vs → RzL (kws.map (·.2)) ks → Op prog w S0 c m σ (call fv vs ((kws.map (·.1)).zip ks)) K
noncomputable def Mth (c : Cx) (m : Ms) (σ : Sto) (x : V) (name : Str) (K : V → List V → Sto → Prop) : Prop :=
  ∀ v, Rz x v → ∀ pl, Tr prog w S0 c.A (c.st m σ) (getMethod v name pl) fun r τ => ∃ f xs σ', Rz f r.1 ∧ RzL xs r.2 ∧ Imp S0 τ (c.st m σ') ∧ K f xs σ'
end
section
variable {prog : Program} {w : World} {S0 : Shared} {c : Cx} {m : Ms} {σ : Sto} {K : V → Sto → Prop}

theorem kpr_blt {id : String} : Kpr prog w S0 (.abs (.builtin id)) := by rintro _ rfl; exact ⟨_, .inr (.inl rfl), Looks.of_pure rfl⟩
theorem kpr_type {T : String} : Kpr prog w S0 (.abs (.type T)) := by rintro _ rfl; exact ⟨_, .inr (.inl rfl), Looks.of_pure rfl⟩
theorem kpr_fn {a : Addr} {o : Obj} {fd : FuncData} (ho : S0.heap.get? a = some o) (hd : o.data = .func fd) : Kpr prog w S0 (.ref a) := by
  rintro _ rfl
  refine ⟨.frame, .inl rfl, fun A Q E s k q => ?_⟩
  unfold keeperOf
  refine wpAny_bind (wpAny_load (k _ _ ho) ?_)
  rw [hd]; exact wpAny_pure q

theorem evalArgs_sp {A : Around} {E : Value → Shared → Prop} {s : Shared} {M : Model} {f : Value} {args : List (Bool × Sem Value)} {Q : Args → Shared → Prop} (hp : args.any (·.1) = false)
    (h : wpAny M A (spliced args) (fun vs s' => Q ⟨vs, []⟩ s') E s) : wpAny M A (evalArgs f true args []) Q E s := by
  match args, hp with
  | [], _ =>
    unfold evalArgs
    show wpAny M A (spliced [] >>= _) Q E s
    refine wpAny_bind (wpAny_mono h (fun vs s' h' => wpAny_bind (wpAny_pure ?_)) fun _ _ x => x)
    refine wpAny_holding ?_
    exact wpAny_bind (wpAny_pure (wpAny_bind (wpAny_pure (wpAny_pure h'))))
  | (false, x) :: r, _ => exact evalArgs_plain h

theorem ev_call {id : Str} {p pos : Pos} {args : List Expr}
    (h : Ev prog w S0 c (.Name id p) m σ fun f σ1 => Kpr prog w S0 f ∧ Evs prog w S0 c pos args m σ1 fun xs σ2 => Cal prog w S0 c m σ2 f xs [] K)
    (hp : (backTo pos (starEach args c.env)).any (·.1) = false := by rfl) : Ev prog w S0 c (.Call (.Name id p) args [] pos) m σ K :=
  Op.of fun s R Q E k => by
    rw [arm_eval_Call_Name']
    refine wpAny_bind (Op.get h s R _ E fun fv f σ1 s1 R1 hf h1 => ?_)
    refine callWith_of (P := fun h => ∀ b o, S0.heap.get? b = some o → h.get? b = some o) (by rw [hp]; rfl) (fun h kk => by
      obtain ⟨k, hk, L⟩ := h1.1 fv hf
      exact ⟨k, hk, L.keeps kk⟩) (evalArgs_sp hp (Evs.get h1.2 s1 R1 _ E fun vs xs σ2 s2 R2 hxs h2 => ⟨R2.keep, ?_⟩))
    exact Op.get (h2 fv vs [] hf hxs trivial) s2 R2 Q E k

theorem ev_meth {o : Expr} {name : Str} {apos pos : Pos} {args : List Expr}
    (h : Ev prog w S0 c o m σ fun x σ1 => Mth prog w S0 c m σ1 x name fun f first σ2 => Kpr prog w S0 f ∧ Evs prog w S0 c pos args m σ2 fun xs σ3 => Cal prog w S0 c m σ3 f (first ++ xs) [] K)
    (hbase : attributeBase o name c.env (eval o c.env) = eval o c.env := by rfl) (hform : methodCallForm (args.length + 0) (backTo pos (starEach args c.env)) [] = true := by rfl) (hline : (apos.endLine == pos.line) = true := by rfl)
    (hp : (backTo pos (starEach args c.env)).any (·.1) = false := by rfl) : Ev prog w S0 c (.Call (.Attribute o name apos) args [] pos) m σ K :=
  Op.of fun s R Q E k => by
    rw [arm_eval_Call, hbase]
    refine wpAny_bind (Op.get h s R _ E fun v x σ1 s1 R1 hx h1 => wpAny_bind (wpAny_standAt ?_))
    unfold methodCall
    rw [show methodCallForm (args.length + ([] : List Keyword).length) (backTo pos (starEach args c.env)) (backToKw pos (keywordEach [] c.env)) = true from hform]
    refine wpAny_bind (wpAny_holding ?_)
    refine h1 v hx _ s1 R1 _ E fun r τ s2 R2 hr => ?_
    obtain ⟨f, first, σ2, hf, hfs, hi, hkp, h2⟩ := hr
    obtain ⟨fv, fs⟩ := r
    have hpos : methodCallPos true o c.env apos pos = pure pos := by unfold methodCallPos; simp [hline]
    refine wpAny_bind (wpAny_of_eq hpos ?_)
    refine callWith_of (P := fun h => ∀ b o, S0.heap.get? b = some o → h.get? b = some o) (by rw [hp]; rfl) (fun h kk => by
      obtain ⟨k, hk, L⟩ := hkp fv hf
      exact ⟨k, hk, L.keeps kk⟩) (evalArgs_sp hp (Evs.get h2 s2 (hi s2 R2) _ E fun vs xs σ3 s3 R3 hxs h3 => ⟨R3.keep, ?_⟩))
    exact Op.get (h3 fv (fs ++ vs) [] hf (hfs.append hxs) trivial) s3 R3 Q E k

/-- a method call with one positional and one named argument -/
theorem ev_meth_kw {o a e : Expr} {name n : Str} {apos pos kp : Pos}
    (h : Ev prog w S0 c o m σ fun x σ1 => Mth prog w S0 c m σ1 x name fun f first σ2 => Kpr prog w S0 f ∧ Ev prog w S0 c a m σ2 fun y σ3 => Ev prog w S0 c e m σ3 fun z σ4 => Cal prog w S0 c m σ4 f (first ++ [y]) [(n, z)] K)
    (hbase : attributeBase o name c.env (eval o c.env) = eval o c.env := by rfl) (hline : (apos.endLine == pos.line) = true := by rfl)
    (hs : starEach [a] c.env = [(false, eval a c.env)] := by rfl) : Ev prog w S0 c (.Call (.Attribute o name apos) [a] [⟨some n, e, kp⟩] pos) m σ K :=
  Op.of fun s R Q E k => by
    rw [arm_eval_Call, hbase]
    refine wpAny_bind (Op.get h s R _ E fun v x σ1 s1 R1 hx h1 => wpAny_bind (wpAny_standAt ?_))
    rw [hs]
    unfold methodCall
    rw [show methodCallForm ([a].length + ([⟨some n, e, kp⟩] : List Keyword).length) (backTo pos [(false, eval a c.env)]) (backToKw pos (keywordEach [⟨some n, e, kp⟩] c.env)) = true from rfl]
    refine wpAny_bind (wpAny_holding ?_)
    refine h1 v hx _ s1 R1 _ E fun r τ s2 R2 hr => ?_
    obtain ⟨f, first, σ2, hf, hfs, hi, hkp, h2⟩ := hr
    obtain ⟨fv, fs⟩ := r
    have hpos : methodCallPos true o c.env apos pos = pure pos := by unfold methodCallPos; simp [hline]
    refine wpAny_bind (wpAny_of_eq hpos ?_)
    refine callWith_of (P := fun h => ∀ b o, S0.heap.get? b = some o → h.get? b = some o) rfl (fun h kk => by
      obtain ⟨k, hk, L⟩ := hkp fv hf
      exact ⟨k, hk, L.keeps kk⟩) ?_
    refine evalArgs_kw rfl (spliced_cons (Op.get h2 s2 (hi s2 R2) _ E fun y' y σ3 s3 R3 hy h3 => spliced_nil (wpAny_evalAll_cons ?_)))
    refine wpAny_bind (Op.get h3 s3 R3 _ E fun z' z σ4 s4 R4 hz h4 => wpAny_bind (wpAny_standAt (wpAny_pure (wpAny_evalAll_nil ⟨R4.keep, ?_⟩))))
    exact Op.get (h4 fv (fs ++ [y']) [z'] hf (hfs.append ⟨hy, trivial⟩) ⟨hz, trivial⟩) s4 R4 Q E k
end
end Mine
end

section
set_option maxRecDepth 10000
namespace Mine
section
variable {prog : Program} {w : World} {S0 : Shared} {c : Cx} {m : Ms} {σ : Sto} {K : V → Sto → Prop}

noncomputable abbrev fenv (fd : FuncData) (a L : Addr) : Env := newEnv fd.scope L fd.globals (cellsFrom (L + 1) fd.scope.names []) (fd.qualname ++ ".<locals>.") (some a) fd.code .none fd.builtins

/-- the context in a called def -/
noncomputable def Cx.into (c : Cx) (m : Ms) (fd : FuncData) (a L : Addr) (names : List Str) (hk : fd.scope.kind = .function) (hg : fd.globals = mainGlobals) (hb : fd.builtins = builtinsNs) (nd : names.Nodup) : Cx :=
  { A := c.A.deeper (fenv fd a L), env := fenv fd a L, names := names, F := (c.env.locals, .frame c.names m) :: c.F, kind := hk, glob := hg, blt := hb, hand := c.hand, nd := nd }

/-- what a def needs to be called -/
structure FnOk (S0 : Shared) (a : Addr) (fd : FuncData) (body : List Stmt) (names : List Str) : Prop where
  at_ : ∃ o, S0.heap.get? a = some o ∧ o.data = .func fd
  body : fd.body = .stmts body
  co : fd.scope.isCoroutine = false
  gen : fd.scope.isGenerator = false
  kind : fd.scope.kind = .function
  clo : fd.closure = []
  glob : fd.globals = mainGlobals
  blt : fd.builtins = builtinsNs
  code : S0.heap.CodeRec fd.code fd.qualname
  nd : names.Nodup
  loc : ∀ x, fd.scope.names.lookup x = some .local → x ∈ names
  ndc : ((cellsFrom 0 fd.scope.names []).map (·.1)).Nodup

noncomputable def Binds (prog : Program) (w : World) (S0 : Shared) (c : Cx) (m : Ms) (σ : Sto) (fd : FuncData) (xs : List V) (kws : List (Str × V)) (P : List (Str × V) → Sto → Prop) : Prop :=
  ∀ vs ks, RzL xs vs → RzL (kws.map (·.2)) ks → Tr prog w S0 c.A.in1 (c.st m σ) (bindArgs fd ⟨vs, (kws.map (·.1)).zip ks⟩) fun bs τ =>
    ∃ bxs σ', bxs.map (·.1) = bs.map (·.1) ∧ RzL (bxs.map (·.2)) (bs.map (·.2)) ∧ Imp S0 τ (c.st m σ') ∧ P bxs σ'

noncomputable def RetK (S0 : Shared) (c : Cx) (m : Ms) (K : V → Sto → Prop) : Fl → Ms → Sto → Prop := fun F _ σ2 => ∃ σ3, Imp S0 (c.st m σ2) (c.st m σ3) ∧ match F with
  | .ret x => K x σ3
  | .next => K .none σ3
  | _ => False

theorem code_def {mg mb : Str → Option Value} {a : Addr} {fd : FuncData} {body : List Stmt} {names : List Str} {xs : List V} {kws : List (Str × V)} (B : Bs S0 mg mb) (FO : FnOk S0 a fd body names) (hroom : c.A.depth < recursionLimit)
    (h : Binds prog w S0 c m σ fd xs kws fun bxs σ' => (bxs.all fun x => fd.scope.names.lookup x.1 == some .local || (fd.scope.names.lookup x.1 == some .cell && ((cellsFrom 0 fd.scope.names []).map (·.1)).contains x.1)) = true ∧
      ∀ L, Ex prog w S0 (c.into m fd a L names FO.kind FO.glob FO.blt FO.nd) body (bindMs (fun n => fd.scope.names.lookup n) names bxs [])
        (cellObjs (cellsFrom (L + 1) fd.scope.names []) (bindCs (fun n => fd.scope.names.lookup n) bxs fun _ => .none) ++ σ') (RetK S0 c m K))
    {vs ks : List Value} (hxs : RzL xs vs) (hks : RzL (kws.map (·.2)) ks) {s : Shared} (R : Rel S0 (c.st m σ) s) {Rr : Result → Shared → Prop} (k : ∀ v V σ' s', Rel S0 (c.st m σ') s' → Rz V v → K V σ' → Rr (.ok (.ret v)) s') :
    codeAny (model prog w) c.A (.call (.ref a) ⟨vs, (kws.map (·.1)).zip ks⟩) Rr s := by
  obtain ⟨o, ho, hd⟩ := FO.at_
  refine codeAny_call_function hroom (R.keep _ _ ho) hd FO.co FO.gen FO.body (FO.code.keeps R.keep) ?_
  refine h vs ks hxs hks s R _ _ fun bs τ s1 R1 hb => ?_
  obtain ⟨bxs, σ1, hn, hz, hi, hok, hex⟩ := hb
  have R1 := hi s1 R1
  rw [FO.clo]
  have hnames : ∀ n acc, (cellsFrom n fd.scope.names acc).map (·.1) = (cellsFrom 0 fd.scope.names acc).map (·.1) := fun n acc => cellsFrom_names _ _ _ _ _ rfl
  have hkind : ∀ x ∈ bs, fd.scope.names.lookup x.1 = some .local ∨ (fd.scope.names.lookup x.1 = some .cell ∧ ((cellsFrom (s1.heap.objs.size + 1) fd.scope.names []).lookup x.1).isSome = true) := fun x hx => by
    have hm : x.1 ∈ bxs.map (·.1) := by rw [hn]; exact List.mem_map_of_mem hx
    obtain ⟨y, hy, e⟩ := List.mem_map.mp hm
    have := List.all_eq_true.mp hok y hy
    rw [e] at this
    simp only [Bool.or_eq_true, Bool.and_eq_true, beq_iff_eq, List.contains_iff_mem] at this
    refine this.imp id fun ⟨p, q⟩ => ⟨p, ?_⟩
    rw [← hnames (s1.heap.objs.size + 1)] at q
    obtain ⟨z, hz, e⟩ := List.mem_map.mp q
    have nd : ((cellsFrom (s1.heap.objs.size + 1) fd.scope.names []).map (·.1)).Nodup := by rw [hnames]; exact FO.ndc
    rw [← e, lookup_of_mem_nodup nd (c := z.2) hz]; rfl
  refine wpAny_newFunctionEnv_cells FO.kind hkind fun env he s2 X => ?_
  subst he
  refine ⟨(B.lim.keeps R1.keep).keeps X.toInCall.keep, codeAny_func ?_⟩
  have hL : (fenv fd a s1.heap.objs.size).locals = s1.heap.objs.size := rfl
  have R2 := Rel.enter R1 (names := names) (m := bindMs (fun n => fd.scope.names.lookup n) names bxs []) (g := bindCs (fun n => fd.scope.names.lookup n) bxs fun _ => .none) X
    (bindMs_ok FO.nd hn hz (fun x hx hl => FO.loc _ hl) FrOk.empty) (by show ((cellsFrom (s1.heap.objs.size + 1) fd.scope.names []).map (·.1)).Nodup; rw [hnames]; exact FO.ndc) (bindCs_ok hn hz fun _ => trivial)
  have R3 : Rel S0 ((c.into m fd a s1.heap.objs.size names FO.kind FO.glob FO.blt FO.nd).st (bindMs (fun n => fd.scope.names.lookup n) names bxs [])
      (cellObjs (cellsFrom (s1.heap.objs.size + 1) fd.scope.names []) (bindCs (fun n => fd.scope.names.lookup n) bxs fun _ => .none) ++ σ1)) s2 := by
    refine R2.perm (.cons _ ?_)
    show List.Perm (_ ++ ((c.env.locals, O.frame c.names m) :: (c.F ++ σ1))) ((c.env.locals, O.frame c.names m) :: c.F ++ (_ ++ σ1))
    rw [← List.cons_append, ← List.append_assoc, ← List.append_assoc]
    exact List.Perm.append_right _ List.perm_append_comm
  refine Ex.get (hex _) s2 R3 _ _ fun f F m2 σ2 s3 R4 hf hk => ?_
  obtain ⟨σ3, hi3, hk⟩ := hk
  have R5 : Rel S0 (c.st m σ3) s3 := hi3 _ (R4.sub (List.sublist_cons_self _ _))
  cases F with
  | next => obtain rfl : f = .next := hf; exact k _ .none σ3 s3 R5 rfl hk
  | ret x => obtain ⟨v, rfl, hv⟩ := hf; exact k _ x σ3 s3 R5 hv hk
  | brk => exact hk.elim
  | cont => exact hk.elim


theorem cal_def {mg mb : Str → Option Value} {a : Addr} {fd : FuncData} {body : List Stmt} {names : List Str} {xs : List V} {kws : List (Str × V)} (B : Bs S0 mg mb) (FO : FnOk S0 a fd body names) (hroom : c.A.depth < recursionLimit)
    (h : Binds prog w S0 c m σ fd xs kws fun bxs σ' => (bxs.all fun x => fd.scope.names.lookup x.1 == some .local || (fd.scope.names.lookup x.1 == some .cell && ((cellsFrom 0 fd.scope.names []).map (·.1)).contains x.1)) = true ∧
      ∀ L, Ex prog w S0 (c.into m fd a L names FO.kind FO.glob FO.blt FO.nd) body (bindMs (fun n => fd.scope.names.lookup n) names bxs [])
        (cellObjs (cellsFrom (L + 1) fd.scope.names []) (bindCs (fun n => fd.scope.names.lookup n) bxs fun _ => .none) ++ σ') (RetK S0 c m K)) : Cal prog w S0 c m σ (.ref a) xs kws K := by
  rintro _ vs ks rfl hxs hks
  exact Op.of fun s R Q E k => wpAny_call (code_def B FO hroom h hxs hks R k)

/-- positional arguments alone, no defaults -/
theorem binds_pos {fd : FuncData} {xs : List V} {ns : List Str} {P : List (Str × V) → Sto → Prop} (hl : xs.length = ns.length)
    (hb : ∀ vs : List Value, vs.length = xs.length → bindArgs fd ⟨vs, []⟩ = pure (ns.zip vs)) (h : P (ns.zip xs) σ) : Binds prog w S0 c m σ fd xs [] P := fun vs ks hz _ => by
  show Tr prog w S0 c.A.in1 (c.st m σ) (bindArgs fd ⟨vs, []⟩) _
  rw [hb vs hz.length.symm]
  have lz : ∀ (ns : List Str) (xs : List V) (vs : List Value), RzL xs vs → xs.length = ns.length → (ns.zip xs).map (·.1) = (ns.zip vs).map (·.1) ∧ RzL ((ns.zip xs).map (·.2)) ((ns.zip vs).map (·.2)) := by
    intro ns
    induction ns with
    | nil => intro xs vs _ _; exact ⟨rfl, trivial⟩
    | cons n ns ih =>
      intro xs vs hz hl
      cases xs with
      | nil => simp at hl
      | cons x xs => cases vs with
        | nil => exact hz.elim
        | cons v vs =>
          obtain ⟨a, b⟩ := ih xs vs hz.2 (by simpa using hl)
          exact ⟨by simp [a], hz.1, b⟩
  obtain ⟨a, b⟩ := lz ns xs vs hz hl
  exact Tr.pure ⟨_, σ, a, b, Imp.rfl, h⟩
end
end Mine
end

section
set_option maxRecDepth 10000
namespace Mine
section
variable (prog : Program) (w : World) (S0 : Shared)

/-- an iterator of the machine: it tells xs, one by one, while P stands -/
structure Itr (it : Addr) (o : Nat → O) (xs : List V) (P : Sto → Prop) : Prop where
  next : ∀ {A : Around} {s : Shared} {τ : Sto} {i : Nat} {x : V}, A.handled = .none → Rel S0 ((it, o i) :: τ) s → P τ → xs[i]? = some x → ∀ (Q : Option Value → Shared → Prop) (E : Value → Shared → Prop),
    (∀ v s', Rel S0 ((it, o (i + 1)) :: τ) s' → Rz x v → Q (some v) s') → wpAny (model prog w) A (pyNext (.ref it)) Q E s
  done : ∀ {A : Around} {s : Shared} {τ : Sto} {i : Nat}, A.handled = .none → Rel S0 ((it, o i) :: τ) s → P τ → xs[i]? = .none → ∀ (Q : Option Value → Shared → Prop) (E : Value → Shared → Prop),
    (∀ s', Rel S0 τ s' → Q .none s') → wpAny (model prog w) A (pyNext (.ref it)) Q E s
  mono : ∀ {τ : Sto} {q : Addr × O}, P τ → P (q :: τ)
  self : ∀ {A : Around} {s : Shared} {τ : Sto} {i : Nat}, Rel S0 ((it, o i) :: τ) s → ∀ (Q : Value → Shared → Prop) (E : Value → Shared → Prop), Q (.ref it) s → wpAny (model prog w) A (pyIter (.ref it)) Q E s
  owned : ∀ {A : Around} {s : Shared} {τ : Sto} {i : Nat} (t : Expr) (v : Value), Rel S0 ((it, o i) :: τ) s → ∀ (Q : Unit → Shared → Prop) (E : Value → Shared → Prop), Q () s → wpAny (model prog w) A (letOwnedTupleGo t (.ref it) v) Q E s

/-- what may be gone through -/
noncomputable def Itb (x : V) (xs : List V) (P : Sto → Prop) : Prop :=
  ∀ {A : Around} {s : Shared} {τ : Sto} {v : Value}, A.handled = .none → Rel S0 τ s → P τ → Rz x v → ∀ (Q : Value → Shared → Prop) (E : Value → Shared → Prop),
    (∀ it o s', Itr prog w S0 it o xs P → Rel S0 ((it, o 0) :: τ) s' → Q (.ref it) s') → wpAny (model prog w) A (pyIter v) Q E s
end
section
variable {prog : Program} {w : World} {S0 : Shared}

/-- the head of the store is changed, no more -/
theorem Rel.hd {a : Addr} {x y : O} {τ : Sto} {s : Shared} (R : Rel S0 ((a, x) :: τ) s) {h' : Heap} (hs : Heap.SameBut a s.heap h') {o : Obj} (ho : h'.get? a = some o) (hy : OR y o) (t : Nat) : Rel S0 ((a, y) :: τ) { s with heap := h', toks := t } :=
  R.put .head hs ho hy t
/-- the head of the store is let go -/
theorem Rel.gone {a : Addr} {x : O} {τ : Sto} {s : Shared} (R : Rel S0 ((a, x) :: τ) s) {h' : Heap} (hs : Heap.ExtBut a s.heap h') (t : Nat) : Rel S0 τ { s with heap := h', toks := t } := by
  have nd := R.nodup
  rw [List.map_cons, List.nodup_cons] at nd
  have ha := (R.objs _ (.head _)).1
  refine ⟨R.gens, R.os, fun b o e => hs b o (fun q => ?_) (R.keep b o e), nd.2, fun p hp => ?_⟩
  · subst q; rw [ha] at e; cases e
  · obtain ⟨q, o, ho, h⟩ := R.objs p (.tail _ hp)
    exact ⟨q, o, hs _ _ (fun q => nd.1 (q ▸ (List.mem_map_of_mem hp : p.1 ∈ τ.map (·.1)))) ho, h⟩

theorem owned_of {it : Addr} {s : Shared} {A : Around} {o : Obj} {T : String} (ho : s.heap.get? it = some o) (hc : o.cls = .type T)
    (hT : ["enumerate", "zip", "dict_itemiterator", "dict_reverseitemiterator", "odict_iterator", "itertools.zip_longest", "itertools.pairwise"].contains T = false)
    (t : Expr) (v : Value) (Q : Unit → Shared → Prop) (E : Value → Shared → Prop) (h : Q () s) : wpAny (model prog w) A (letOwnedTupleGo t (.ref it) v) Q E s := by
  unfold letOwnedTupleGo
  split
  all_goals first
    | exact wpAny_pure h
    | (cases v <;> first
        | exact wpAny_pure h
        | (refine wpAny_bind (wpAny_load ho ?_)
           rw [hc]
           cases o.data <;> first
             | exact wpAny_pure h
             | (simp only [hT, Bool.false_and]; exact wpAny_pure h)))

/- lists -/
theorem itr_list {it l : Addr} {xs : List V} : Itr prog w S0 it (fun i => .liter l i) xs fun τ => (l, O.list xs) ∈ τ where
  next := fun {A s τ i x} hh R hP hx Q E k => by
    obtain ⟨_, o, ho, hc, hd⟩ := R.objs _ (.head _)
    obtain ⟨vs, n, hl, hz⟩ := list_at R (.tail _ hP)
    obtain ⟨v, hv, hzv⟩ := hz.get hx
    refine wpAny_pyNext_list_item ⟨o, ho, hc, hd⟩ hl.isList (x := v) (by simpa using hv) fun h' hi hs => ?_
    obtain ⟨o', ho', hc', hd'⟩ := hi
    exact k v _ (R.hd (y := .liter l (i + 1)) hs ho' ⟨hc', hd'⟩ s.toks) hzv
  done := fun {A s τ i} hh R hP hx Q E k => by
    obtain ⟨_, o, ho, hc, hd⟩ := R.objs _ (.head _)
    obtain ⟨vs, n, hl, hz⟩ := list_at R (.tail _ hP)
    refine wpAny_pyNext_list_end hh ⟨o, ho, hc, hd⟩ hl.isList (by simpa [hz.length] using hx) fun h' hs => k _ (R.gone hs s.toks)
  mono := fun h => .tail _ h
  self := fun {A s τ i} R Q E k => by
    obtain ⟨_, o, ho, hc, hd⟩ := R.objs _ (.head _)
    exact wpAny_pyIter_listiter ⟨o, ho, hc, hd⟩ k
  owned := fun {A s τ i} t v R Q E k => by
    obtain ⟨_, o, ho, hc, hd⟩ := R.objs _ (.head _)
    exact owned_of ho hc (by decide) t v Q E k
theorem itb_list {l : Addr} {xs : List V} : Itb prog w S0 (.ref l) xs fun τ => (l, O.list xs) ∈ τ := by
  rintro A s τ _ hh R hP rfl Q E k
  obtain ⟨vs, n, hl, hz⟩ := list_at R hP
  refine wpAny_pyIter_list hl.isList (k _ _ _ itr_list ?_)
  exact R.alloc (x := .liter l 0) ⟨rfl, rfl⟩ rfl s.toks

/- ranges -/
theorem riter_get (a c : Int) (n i : Nat) (x : V) (h : ((List.range n).map fun j : Nat => V.int (a + (j : Int) * c))[i]? = some x) : i < n ∧ x = .int (a + i * c) := by
  rw [List.getElem?_map, Option.map_eq_some_iff] at h
  obtain ⟨j, hj, rfl⟩ := h
  obtain ⟨hlt, e⟩ := List.getElem?_eq_some_iff.mp hj
  rw [List.getElem_range] at e
  rw [List.length_range] at hlt
  subst e
  exact ⟨hlt, rfl⟩
theorem itr_range {it : Addr} {a c : Int} {n : Nat} : Itr prog w S0 it (fun i => .riter (a + i * c) (n - i : Int) c) ((List.range n).map fun j : Nat => V.int (a + (j : Int) * c)) fun _ => True where
  next := fun {A s τ i x} hh R hP hx Q E k => by
    obtain ⟨_, o, ho, rfl⟩ := R.objs _ (.head _)
    obtain ⟨hi, rfl⟩ := riter_get _ _ _ _ _ hx
    refine wpAny_pyNext_range_item ho (by omega) fun h' hi hs => k _ _ (R.hd (y := .riter (a + ((i + 1 : Nat) : Int) * c) (n - ((i + 1 : Nat) : Int)) c) hs hi ?_ _) ⟨_, rfl⟩
    show _ = _
    have e1 : a + (i : Int) * c + c = a + ((i + 1 : Nat) : Int) * c := by rw [Int.natCast_add, Int.add_mul]; omega
    have e2 : (n : Int) - i - 1 = n - ((i + 1 : Nat) : Int) := by omega
    rw [e1, e2]
  done := fun {A s τ i} hh R hP hx Q E k => by
    obtain ⟨_, o, ho, rfl⟩ := R.objs _ (.head _)
    have hi : n ≤ i := by simpa using hx
    exact wpAny_pyNext_range_end hh ho (by omega) fun h' hs => k _ (R.gone hs s.toks)
  mono := fun h => h
  self := fun {A s τ i} R Q E k => by
    obtain ⟨_, o, ho, rfl⟩ := R.objs _ (.head _)
    exact wpAny_pyIter_rangeiter ho k
  owned := fun {A s τ i} t v R Q E k => by
    obtain ⟨_, o, ho, rfl⟩ := R.objs _ (.head _)
    exact owned_of ho rfl (by decide) t v Q E k
theorem itb_range {r : Addr} {a b c : Int} {n : Nat} (hs : Builtin.Range.small a b c = true) (hn : Builtin.Range.rangeSize a b c = n) : Itb prog w S0 (.ref r) ((List.range n).map fun j : Nat => V.int (a + (j : Int) * c)) fun τ => (r, O.rng a b c) ∈ τ := by
  rintro A s τ _ hh R hP rfl Q E k
  obtain ⟨_, o, ho, t, u, v, rfl⟩ := R.objs _ hP
  refine wpAny_pyIter_range ho hs (k _ (fun i => .riter (a + i * c) (n - i : Int) c) _ ⟨?_, ?_, ?_, ?_, ?_⟩ ?_)
  · exact fun hh R _ hx => itr_range.next hh R trivial hx
  · exact fun hh R _ hx => itr_range.done hh R trivial hx
  · exact fun h => .tail _ h
  · exact fun R => itr_range.self R
  · exact fun t v R => itr_range.owned t v R
  · refine R.alloc ?_ rfl s.toks
    show _ = _
    rw [hn]
    simp

/- texts -/
noncomputable def signs (x : Str) : List V := x.cps.toList.map fun c => .str ⟨#[c]⟩
theorem itr_str {it : Addr} {x : Str} : Itr prog w S0 it (fun i => .siter x i) (signs x) fun _ => True where
  next := fun {A s τ i y} hh R hP hx Q E k => by
    obtain ⟨_, o, ho, t, hc, hd⟩ := R.objs _ (.head _)
    unfold signs at hx
    rw [List.getElem?_map, Option.map_eq_some_iff] at hx
    obtain ⟨c, hcp, rfl⟩ := hx
    have hcp' : x.cps[i]? = some c := by simpa using hcp
    by_cases ha : x.cps.all (· < 128) = true
    · rw [if_pos ha] at hc
      refine wpAny_pyNext_ascii_item ⟨o, ho, hc, hd⟩ hcp' fun h' ⟨o', ho', hc', hd'⟩ hs => k _ _ (R.hd (y := .siter x (i + 1)) hs ho' ⟨t, ?_, hd'⟩ _) ⟨_, rfl⟩
      rw [if_pos ha]; exact hc'
    · rw [if_neg ha] at hc
      refine wpAny_pyNext_wide_item ⟨o, ho, hc, hd⟩ hcp' fun h' ⟨o', ho', hc', hd'⟩ hs => k _ _ (R.hd (y := .siter x (i + 1)) hs ho' ⟨t, ?_, hd'⟩ _) ⟨_, rfl⟩
      rw [if_neg ha]; exact hc'
  done := fun {A s τ i} hh R hP hx Q E k => by
    obtain ⟨_, o, ho, t, hc, hd⟩ := R.objs _ (.head _)
    have hcp' : x.cps[i]? = .none := by unfold signs at hx; simpa using hx
    by_cases ha : x.cps.all (· < 128) = true
    · rw [if_pos ha] at hc
      exact wpAny_pyNext_ascii_end hh ⟨o, ho, hc, hd⟩ hcp' fun h' hs => k _ (R.gone hs s.toks)
    · rw [if_neg ha] at hc
      exact wpAny_pyNext_wide_end hh ⟨o, ho, hc, hd⟩ hcp' fun h' hs => k _ (R.gone hs s.toks)
  mono := fun h => h
  self := fun {A s τ i} R Q E k => by
    obtain ⟨_, o, ho, t, hc, hd⟩ := R.objs _ (.head _)
    by_cases ha : x.cps.all (· < 128) = true
    · rw [if_pos ha] at hc; exact wpAny_pyIter_striter_ascii ⟨o, ho, hc, hd⟩ k
    · rw [if_neg ha] at hc; exact wpAny_pyIter_striter_wide ⟨o, ho, hc, hd⟩ k
  owned := fun {A s τ i} t' v R Q E k => by
    obtain ⟨_, o, ho, t, hc, hd⟩ := R.objs _ (.head _)
    refine owned_of ho hc ?_ t' v Q E k
    by_cases ha : x.cps.all (· < 128) = true
    · rw [if_pos ha]; decide
    · rw [if_neg ha]; decide
theorem itb_str {x : Str} : Itb prog w S0 (.str x) (signs x) fun _ => True := by
  rintro A s τ _ hh R hP ⟨t, rfl⟩ Q E k
  cases ha : x.cps.all (· < 128)
  · refine wpAny_pyIter_wide ha (k _ _ _ itr_str (R.alloc (x := .siter x 0) ⟨t, ?_, rfl⟩ rfl s.toks))
    rw [ha]; rfl
  · refine wpAny_pyIter_ascii ha (k _ _ _ itr_str (R.alloc (x := .siter x 0) ⟨t, ?_, rfl⟩ rfl s.toks))
    rw [ha]; rfl
end
end Mine
end

section
set_option maxRecDepth 10000
namespace Mine

/-- a frame and a store that tell less -/
structure Wk (m : Ms) (σ : Sto) (m' : Ms) (σ' : Sto) : Prop where
  ms : ∀ i v, m'.lookup i = some v → m.lookup i = some v
  st : σ'.Sublist σ
theorem Wk.rfl {m : Ms} {σ : Sto} : Wk m σ m σ := ⟨fun _ _ h => h, .refl _⟩
noncomputable def SubMs : Ms → Ms → Prop
  | [], _ => True
  | (i, x) :: r, m => m.lookup i = some x ∧ SubMs r m
theorem SubMs.of {m' m : Ms} (h : SubMs m' m) : ∀ i v, m'.lookup i = some v → m.lookup i = some v := by
  induction m' with
  | nil => intro i v e; cases e
  | cons p r ih =>
    obtain ⟨j, x⟩ := p
    intro i v e
    rw [List.lookup_cons] at e
    cases hij : i == j with
    | true => rw [hij] at e; cases e; rw [beq_iff_eq.mp hij]; exact h.1
    | false => rw [hij] at e; exact ih h.2 i v e
theorem Wk.of {m m' : Ms} {σ σ' : Sto} (h : SubMs m' m) (k : σ'.Sublist σ) : Wk m σ m' σ' := ⟨h.of, k⟩

noncomputable def Cx.push (c : Cx) (p : Addr × O) : Cx := { c with F := p :: c.F }

section
variable {prog : Program} {w : World} {S0 : Shared} {c : Cx} {m : Ms} {σ : Sto}

theorem Wk.imp {m' : Ms} {σ' : Sto} (h : Wk m σ m' σ') : Imp S0 (c.st m σ) (c.st m' σ') := fun s R => by
  have R1 : Rel S0 (c.st m σ') s := R.sub (.cons_cons _ (.append (.refl _) h.st))
  refine ⟨R1.gens, R1.os, R1.keep, R1.nodup, fun p hp => ?_⟩
  rcases List.mem_cons.mp hp with rfl | hp
  · obtain ⟨a, o, ho, es, ep, hd, hk, hf⟩ := R1.objs _ (.head _)
    refine ⟨a, o, ho, es, ep, hd, hk, fun i x hx => ?_⟩
    have := hf i x hx
    cases e : m'.lookup i with
    | none => trivial
    | some v => rw [h.ms i v e] at this; exact this
  · exact R1.objs p (.tail _ hp)
theorem Ex.wk {ss : List Stmt} {m' : Ms} {σ' : Sto} {K : Fl → Ms → Sto → Prop} (h : Wk m σ m' σ') (k : Ex prog w S0 c ss m' σ' K) : Ex prog w S0 c ss m σ K := Tr.weak h.imp k
theorem Ev.wk {e : Expr} {σ' : Sto} {K : V → Sto → Prop} (h : σ'.Sublist σ) (k : Ev prog w S0 c e m σ' K) : Ev prog w S0 c e m σ K := Tr.weak (Wk.imp ⟨fun _ _ h => h, h⟩) k

theorem push_perm {p : Addr × O} : (p :: c.st m σ).Perm ((c.push p).st m σ) := List.Perm.swap ..

/- targets -/
noncomputable def Asg (prog : Program) (w : World) (S0 : Shared) (c : Cx) (t : Expr) (x : V) (m : Ms) (σ : Sto) (K : Ms → Sto → Prop) : Prop :=
  ∀ v, Rz x v → Tr prog w S0 c.A (c.st m σ) (assign t c.env v) fun _ τ => ∃ m' σ', Imp S0 τ (c.st m' σ') ∧ K m' σ'
theorem Asg.of {t : Expr} {x : V} {K : Ms → Sto → Prop} (h : ∀ v, Rz x v → ∀ s, Rel S0 (c.st m σ) s → ∀ Q E, (∀ m' σ' s', Rel S0 (c.st m' σ') s' → K m' σ' → Q () s') → wpAny (model prog w) c.A (assign t c.env v) Q E s) : Asg prog w S0 c t x m σ K :=
  fun v hv s R Q E k => h v hv s R Q E fun m' σ' s' R' hk => k () (c.st m' σ') s' R' ⟨m', σ', Imp.rfl, hk⟩
theorem Asg.get {t : Expr} {x : V} {K : Ms → Sto → Prop} (h : Asg prog w S0 c t x m σ K) : ∀ v, Rz x v → ∀ s, Rel S0 (c.st m σ) s → ∀ Q E, (∀ m' σ' s', Rel S0 (c.st m' σ') s' → K m' σ' → Q () s') → wpAny (model prog w) c.A (assign t c.env v) Q E s :=
  fun v hv s R Q E k => h v hv s R Q E fun _ τ s' R' ⟨m', σ', hi, hk⟩ => k m' σ' s' (hi s' R') hk
theorem asg_name {n : Str} {p : Pos} {x : V} {K : Ms → Sto → Prop} (h : Sto1 prog w S0 c m σ n x K) : Asg prog w S0 c (.Name n p) x m σ K :=
  Asg.of fun v hv s R Q E k => wpAny_assign_Name (h.get v hv s R Q E k)
/-- the stores of a tuple's targets, one after the other -/
noncomputable def AsgL (prog : Program) (w : World) (S0 : Shared) (c : Cx) : List Expr → List V → Ms → Sto → (Ms → Sto → Prop) → Prop
  | [], [], m, σ, K => K m σ
  | t :: ts, x :: xs, m, σ, K => Asg prog w S0 c t x m σ fun m' σ' => AsgL prog w S0 c ts xs m' σ' K
  | _, _, _, _, _ => False
theorem AsgL.get {ts : List Expr} {xs : List V} {m : Ms} {σ : Sto} {K : Ms → Sto → Prop} (h : AsgL prog w S0 c ts xs m σ K) : ∀ vs, RzL xs vs → ∀ s, Rel S0 (c.st m σ) s → ∀ (Q : Unit → Shared → Prop) E,
    (∀ m' σ' s', Rel S0 (c.st m' σ') s' → K m' σ' → Q () s') → wpAny (model prog w) c.A (assignInOrder (ts.map fun t => assign t c.env) vs) Q E s := by
  induction ts generalizing xs m σ with
  | nil =>
    cases xs with
    | nil => intro vs hz s R Q E k; cases vs with | nil => exact wpAny_pure (k m σ s R h) | cons => exact hz.elim
    | cons => exact h.elim
  | cons t ts ih =>
    cases xs with
    | nil => exact h.elim
    | cons x xs =>
      intro vs hz s R Q E k
      cases vs with
      | nil => exact hz.elim
      | cons v vs =>
        show wpAny _ _ (holding vs (assign t c.env v) >>= fun _ => assignInOrder (ts.map fun t => assign t c.env) vs) _ _ _
        exact wpAny_bind (wpAny_holding (Asg.get h v hz.1 s R _ E fun m' σ' s' R' h' => ih h' vs hz.2 s' R' Q E k))
theorem RzL.len {xs : List V} {vs : List Value} (h : RzL xs vs) : vs.length = xs.length := h.length.symm
theorem each_len : ∀ {ts : List Expr} {xs : List V} {m : Ms} {σ : Sto} {K : Ms → Sto → Prop}, AsgL prog w S0 c ts xs m σ K → (∀ t ∈ ts, ∃ n p, t = .Name n p) → True := fun _ _ => trivial

/-- a, b = (a tuple) -/
theorem asg_tuple {ts : List Expr} {n : Nat} {p : Pos} {a : Addr} {xs : List V} {K : Ms → Sto → Prop} (ha : (a, O.tuple xs) ∈ c.st m σ) (hl : ts.length = xs.length)
    (h : AsgL prog w S0 c ts xs m σ K) (he : assignEach ts c.env = ts.map fun t => (false, assign t c.env) := by rfl) : Asg prog w S0 c (.Tuple ts n p) (.ref a) m σ K :=
  Asg.of fun v hv s R Q E k => by
    obtain rfl : v = .ref a := hv
    obtain ⟨vs, nn, ht, hz⟩ := tuple_at R ha
    refine wpAny_assign_Tuple c.hand ⟨_, ht, rfl, nn, rfl⟩ (by rw [he]; simp [hl, hz.len]) ?_ fun h' hx => ?_
    · rw [he]
      clear he hl h
      induction ts with
      | nil => rfl
      | cons t ts ih => rw [List.map_cons, List.findIdx?_cons, ih]; rfl
    · rw [he, List.map_map]
      have R' : Rel S0 (c.st m σ) { s with heap := h' } := by
        have := R.grow (h' := h') (fun b o e => hx b o (Nat.ne_of_lt (Heap.lt_size e)) e) s.toks
        exact this
      exact h.get vs hz _ R' Q E k

/- for -/
noncomputable def Turns (prog : Program) (w : World) (S0 : Shared) (c : Cx) (P : Sto → Prop) (t : Expr) (body rest : List Stmt) (K : Fl → Ms → Sto → Prop) : List V → Ms → Sto → Prop
  | [], m, τ => P (c.st m τ) ∧ Ex prog w S0 c rest m τ K
  | x :: xs, m, τ => P (c.st m τ) ∧ ∀ p, Asg prog w S0 (c.push p) t x m τ fun m1 τ1 => Ex prog w S0 (c.push p) body m1 τ1 fun F m' τ' => match F with
      | .next | .cont => ∃ m'' τ'', Wk m' τ' m'' τ'' ∧ Turns prog w S0 c P t body rest K xs m'' τ''
      | .brk => Ex prog w S0 c rest m' τ' K
      | .ret v => K (.ret v) m' τ'

theorem Rel.pop {p : Addr × O} {s : Shared} (R : Rel S0 ((c.push p).st m σ) s) : Rel S0 (c.st m σ) s := (R.perm (push_perm (p := p)).symm).sub (.cons _ (.refl _))

theorem ex_for {t iter : Expr} {body rest : List Stmt} {pos : Pos} {K : Fl → Ms → Sto → Prop}
    (h : Ev prog w S0 c iter m σ fun x σ1 => ∃ xs P, Itb prog w S0 x xs P ∧ Turns prog w S0 c P t body rest K xs m σ1)
    (hs : ∀ x, foldedSetIterable iter c.env x = pure x := by intro _; rfl) : Ex prog w S0 c (.For t iter body [] pos :: rest) m σ K := by
  refine Ex.of fun s R Q E k => wpAny_execs_cons (wpAny_For (Op.get h s R _ E fun v x σ1 s1 R1 hx h1 => ?_) hs)
  obtain ⟨xs, P, hI, hT⟩ := h1
  have hP : P (c.st m σ1) := by cases xs <;> exact hT.1
  refine hI c.hand R1 hP hx _ E fun it o s2 I R2 => ?_
  refine codeAny_forLoop_any (fun n s => ∃ i m τ, i + n = xs.length ∧ Rel S0 ((it, o i) :: c.st m τ) s ∧ Turns prog w S0 c P t body rest K (xs.drop i) m τ) ?_ xs.length ⟨0, m, σ1, by omega, R2, hT⟩
  rintro n s3 ⟨i, m3, τ3, hn, R3, hT3⟩
  cases hi : xs[i]? with
  | none =>
    have e : xs.drop i = [] := List.drop_eq_nil_of_le (by simpa using hi)
    rw [e] at hT3
    refine I.done c.hand R3 hT3.1 hi _ _ fun s4 R4 => ?_
    exact wpAny_execs_nil (Ex.get hT3.2 s4 R4 Q E k)
  | some x =>
    obtain ⟨hlt, ex⟩ := List.getElem?_eq_some_iff.mp hi
    have e : xs.drop i = x :: xs.drop (i + 1) := by rw [List.drop_eq_getElem_cons hlt, ex]
    rw [e] at hT3
    refine I.next c.hand R3 hT3.1 hi _ _ fun v s4 R4 hv => ?_
    refine I.owned t v R4 _ _ ?_
    refine Asg.get (hT3.2 (it, o (i + 1))) v hv s4 (R4.perm push_perm) _ _ fun m5 τ5 s5 R5 h5 => ?_
    refine Ex.get h5 s5 R5 _ _ fun f F m' τ' s6 R6 hf hk => ?_
    have back : ∀ m'' τ'', Wk m' τ' m'' τ'' → Rel S0 ((it, o (i + 1)) :: c.st m'' τ'') s6 := fun m'' τ'' hw => ((hw.imp (c := c.push (it, o (i + 1))) s6 R6).perm push_perm.symm)
    cases F with
    | next => obtain rfl : f = .next := hf; obtain ⟨m'', τ'', hw, hT'⟩ := hk; exact ⟨n - 1, by omega, i + 1, m'', τ'', by omega, back _ _ hw, hT'⟩
    | cont => obtain rfl : f = .cont := hf; obtain ⟨m'', τ'', hw, hT'⟩ := hk; exact ⟨n - 1, by omega, i + 1, m'', τ'', by omega, back _ _ hw, hT'⟩
    | brk => obtain rfl : f = .brk := hf; exact Ex.get hk s6 R6.pop Q E k
    | ret y => obtain ⟨u, rfl, hu⟩ := hf; exact k _ (.ret y) m' τ' s6 R6.pop ⟨u, rfl, hu⟩ hk

/- comprehensions -/
noncomputable def Tst (prog : Program) (w : World) (S0 : Shared) (c : Cx) : List Expr → Ms → Sto → (Bool → Sto → Prop) → Prop
  | [], _, σ, K => K true σ
  | e :: es, m, σ, K => Et prog w S0 c e m σ fun b σ1 => (b = true → Tst prog w S0 c es m σ1 K) ∧ (b = false → K false σ1)

theorem tests_false {A : Around} {E : Value → Shared → Prop} {env : Env} {s : Shared} {ifs : List Expr} {Q : Bool → Shared → Prop} (h : Q false s) :
    wpAny (model prog w) A (forIn ifs false fun c r => if r = true then do let ok ← isTrue c env (eval c env); pure (ForInStep.yield ok) else pure (ForInStep.yield r)) Q E s := by
  induction ifs with
  | nil => exact wpAny_pure h
  | cons e es ih =>
    rw [List.forIn_cons]
    exact wpAny_bind (wpAny_pure ih)
theorem Tst.get {ifs : List Expr} {m : Ms} {σ : Sto} {K : Bool → Sto → Prop} (h : Tst prog w S0 c ifs m σ K) : ∀ s, Rel S0 (c.st m σ) s → ∀ (Q : Bool → Shared → Prop) E,
    (∀ b σ' s', Rel S0 (c.st m σ') s' → K b σ' → Q b s') → wpAny (model prog w) c.A (forIn ifs true fun e r => if r = true then do let ok ← isTrue e c.env (eval e c.env); pure (ForInStep.yield ok) else pure (ForInStep.yield r)) Q E s := by
  induction ifs generalizing σ with
  | nil => intro s R Q E k; exact wpAny_pure (k true σ s R h)
  | cons e es ih =>
    intro s R Q E k
    rw [List.forIn_cons]
    refine wpAny_bind ?_
    show wpAny _ _ (isTrue e c.env (eval e c.env) >>= fun ok => pure (ForInStep.yield ok)) _ _ _
    refine wpAny_bind (Et.get h s R _ E fun b σ1 s1 R1 h1 => wpAny_pure ?_)
    cases b
    · exact tests_false (k false σ1 s1 R1 (h1.2 rfl))
    · exact ih (h1.1 rfl) s1 R1 Q E k

noncomputable def CT (prog : Program) (w : World) (S0 : Shared) (c : Cx) (P : Sto → Prop) (t : Expr) (ifs : List Expr) (elt : Expr) (K : List V → Ms → Sto → Prop) : List V → List V → Ms → Sto → Prop
  | [], ys, m, τ => P (c.st m τ) ∧ K ys m τ
  | x :: xs, ys, m, τ => P (c.st m τ) ∧ ys.length ≤ sizeLine ∧ ∀ p q, Asg prog w S0 ((c.push q).push p) t x m τ fun m1 τ1 => Tst prog w S0 ((c.push q).push p) ifs m1 τ1 fun b τ2 =>
      (b = true → Ev prog w S0 ((c.push q).push p) elt m1 τ2 fun y τ3 => ∃ m'' τ'', Wk m1 τ3 m'' τ'' ∧ CT prog w S0 c P t ifs elt K xs (ys ++ [y]) m'' τ'') ∧
      (b = false → ∃ m'' τ'', Wk m1 τ2 m'' τ'' ∧ CT prog w S0 c P t ifs elt K xs ys m'' τ'')
end
end Mine
end

section
set_option maxRecDepth 10000
namespace Mine
section
variable {prog : Program} {w : World} {S0 : Shared} {c : Cx} {m : Ms} {σ : Sto}

noncomputable abbrev cenv (c : Cx) (scope : Scope) (cl : List (Str × Addr)) (L : Addr) : Env :=
  { scope := relabel scope c.env, locals := L, globals := c.env.globals, cells := cellsFrom (L + 1) scope.names cl, qual := c.env.qual, func := .none, code := c.env.code, frame := c.env.frame, builtins := c.env.builtins }

noncomputable def Cx.comp (c : Cx) (m : Ms) (scope : Scope) (cl : List (Str × Addr)) (L : Addr) (names : List Str) (hk : scope.kind = .function) (nd : names.Nodup) : Cx :=
  { A := c.A, env := cenv c scope cl L, names := names, F := (c.env.locals, .frame c.names m) :: c.F, kind := hk, glob := c.glob, blt := c.blt, hand := c.hand, nd := nd }

theorem wp_newCompEnv {A : Around} {E : Value → Shared → Prop} {s : Shared} {M : Model} {scope : Scope} {globals : Addr} {cl : List (Str × Addr)} {qual : Str} {env : Env} {Q : Env → Shared → Prop}
    (hQ : Q { scope := scope, locals := s.heap.objs.size, globals := globals, cells := cellsFrom (s.heap.objs.size + 1) scope.names cl, qual := qual, func := .none, code := env.code, frame := env.frame, builtins := env.builtins }
      { s with heap := pushCells (s.heap.push { cls := .type "dict", data := .dict #[] }) scope.names }) :
    wpAny M A (newFunctionEnv scope globals cl [] qual .none .none (some env)) Q E s := by
  simp only [newFunctionEnv, Option.isSome_some, if_true]
  refine wpAny_bind (wpAny_alloc ?_)
  refine wpAny_bind (wpAny_layCells _ (fun name kind cells => by cases hkc : kind == NameKind.cell <;> simp [hkc]) _ _ _ _ ?_)
  rw [show ({ s with heap := s.heap.push { cls := .type "dict", data := .dict #[] } } : Shared).heap.objs.size = s.heap.objs.size + 1 from Heap.size_push ..]
  rw [List.forIn_nil]
  exact wpAny_bind (wpAny_pure (wpAny_pure hQ))

theorem Rel.enterComp {τ : Sto} {s : Shared} (R : Rel S0 τ s) {names : List Str} {scope : Scope} (ndc : ((cellsFrom 0 scope.names []).map (·.1)).Nodup) :
    Rel S0 ((s.heap.objs.size, .frame names []) :: (cellObjs (cellsFrom (s.heap.objs.size + 1) scope.names []) (fun _ => .none) ++ τ))
      { s with heap := pushCells (s.heap.push { cls := .type "dict", data := .dict #[] }) scope.names } := by
  have ok := cellsFrom_ok scope.names (s.heap.push { cls := .type "dict", data := .dict #[] }) (s.heap.objs.size + 1) [] ⟨fun _ _ hm => (nomatch hm), List.Pairwise.nil⟩ (by rw [Heap.size_push]; exact Nat.le_refl _)
  rw [Heap.size_push] at ok
  have X : InCallC s s.heap.objs.size (fun _ => .none) (cellsFrom (s.heap.objs.size + 1) scope.names []) (fun _ => .none) { s with heap := pushCells (s.heap.push { cls := .type "dict", data := .dict #[] }) scope.names } :=
    ⟨⟨⟨_, _, rfl⟩, (Heap.Ns.new s.heap (.type "dict")).keeps (pushCells_keeps _ _), fun b o e => pushCells_keeps _ _ b o (Heap.get?_push_of_some _ e), Nat.le_refl _⟩,
      fun n c hc => (ok.empty n c (mem_of_lookup hc)).1, ok.apart, fun n c hm => (ok.empty n c hm).2⟩
  refine Rel.enter R X FrOk.empty ?_ fun _ => trivial
  rw [cellsFrom_names _ _ _ _ _ rfl]
  exact ndc

/-- the loop of a list comprehension -/
theorem comp_loop {t iter elt : Expr} {ifs : List Expr} {scope : Scope} {pos : Pos} {P : Sto → Prop} {K : List V → Ms → Sto → Prop} {it acc : Addr} {o : Nat → O} {xs : List V} {τ : Sto} {s : Shared} {Rr : Result → Shared → Prop}
    (I : Itr prog w S0 it o xs P) (R : Rel S0 ((it, o 0) :: (acc, .list []) :: c.st m τ) s) (h : CT prog w S0 c P t ifs elt K xs [] m τ)
    (k : ∀ ys m' τ' s', Rel S0 ((acc, .list ys) :: c.st m' τ') s' → K ys m' τ' → Rr (.ok .next) s') :
    codeAny (model prog w) c.A (.compStart (.ListComp elt [⟨t, iter, ifs, 0⟩] scope pos) 0 (.ref it) (.ref acc) c.env) Rr s := by
  have loop : codeAny (model prog w) c.A (.compLoop (.ListComp elt [⟨t, iter, ifs, 0⟩] scope pos) 0 (.ref it) (.ref acc) c.env) Rr s := by
    refine codeAny_loop rfl (fun n s => ∃ i ys m τ, i + n = xs.length ∧ Rel S0 ((it, o i) :: (acc, .list ys) :: c.st m τ) s ∧ CT prog w S0 c P t ifs elt K (xs.drop i) ys m τ) (fun n s3 hI => ?_) xs.length ⟨0, [], m, τ, by omega, R, h⟩
    obtain ⟨i, ys, m3, τ3, hn, R3, hT3⟩ := hI
    show wpAny _ _ ((compTurn (.ListComp elt [⟨t, iter, ifs, 0⟩] scope pos) 0 (.ref it) (.ref acc) c.env).onRaise (fun x => do noteFrame x c.env; theTreesLotGoes x)) _ _ s3
    refine wpAny_noted ?_
    rw [compTurn_list]
    refine wpAny_bind (wpAny_standAt (wpAny_bind ?_))
    cases hi : xs[i]? with
    | none =>
      have e : xs.drop i = [] := List.drop_eq_nil_of_le (by simpa using hi)
      rw [e] at hT3
      exact I.done c.hand R3 (I.mono hT3.1) hi _ _ fun s4 R4 => wpAny_pure (k ys m3 τ3 s4 R4 hT3.2)
    | some x =>
      obtain ⟨hlt, ex⟩ := List.getElem?_eq_some_iff.mp hi
      have e : xs.drop i = x :: xs.drop (i + 1) := by rw [List.drop_eq_getElem_cons hlt, ex]
      rw [e] at hT3
      refine I.next c.hand R3 (I.mono hT3.1) hi _ _ fun v s4 R4 hv => ?_
      refine wpAny_bind (I.owned t v R4 _ _ ?_)
      have toC : ∀ {m τ} , ((it, o (i + 1)) :: (acc, O.list ys) :: c.st m τ).Perm (((c.push (acc, .list ys)).push (it, o (i + 1))).st m τ) := fun {m τ} =>
        (List.Perm.cons _ (push_perm (p := (acc, O.list ys)))).trans push_perm
      refine wpAny_bind (Asg.get (hT3.2.2 (it, o (i + 1)) (acc, .list ys)) v hv s4 (R4.perm toC) _ _ fun m5 τ5 s5 R5 h5 => ?_)
      refine wpAny_bind (Tst.get h5 s5 R5 _ _ fun b τ6 s6 R6 h6 => ?_)
      cases b with
      | false =>
        obtain ⟨m'', τ'', hw, hT'⟩ := h6.2 rfl
        exact wpAny_pure ⟨rfl, n - 1, by omega, i + 1, ys, m'', τ'', by omega, (hw.imp s6 R6).perm toC.symm, hT'⟩
      | true =>
        refine wpAny_bind (wpAny_bind (Op.get (h6.1 rfl) s6 R6 _ _ fun v y τ7 s7 R7 hy h7 => wpAny_bind ?_))
        obtain ⟨m'', τ'', hw, hT'⟩ := h7
        have R8 := (hw.imp s7 R7).perm (toC (m := m'') (τ := τ'')).symm
        obtain ⟨_, ob, hob, vs, nn, rfl, hz⟩ := R8.objs (acc, .list ys) (.tail _ (.head _))
        refine wpAny_list_append_plain ⟨nn, hob⟩ (fun h' ⟨nn', hob'⟩ hs => wpAny_pure (wpAny_pure ⟨rfl, n - 1, by omega, i + 1, ys ++ [y], m'', τ'', by omega, ?_, hT'⟩)) (by rw [List.size_toArray, ← hz.length]; exact hT3.2.1)
        exact Rel.put (y := .list (ys ++ [y])) (.tail .head) R8 hs hob' ⟨vs ++ [v], nn', by simp, hz.snoc hy⟩ s7.toks
  refine codeAny_compStart_list loop (I.self R _ _ loop)

/-- what a list comprehension asks -/
noncomputable def Lc (prog : Program) (w : World) (S0 : Shared) (c : Cx) (t iter elt : Expr) (ifs : List Expr) (scope : Scope) (cl : List (Str × Addr)) (names : List Str) (hk : scope.kind = .function) (nd : names.Nodup) (m : Ms) (σ : Sto) (K : List V → Sto → Prop) : Prop :=
  Ev prog w S0 c iter m σ fun x σ1 => ∃ xs P, Itb prog w S0 x xs P ∧ P (c.st m σ1) ∧ ∀ L, CT prog w S0 (c.comp m scope cl L names hk nd) P t ifs elt (fun ys _ τ' => ∃ σ', σ'.Sublist τ' ∧ K ys σ') xs [] []
    (cellObjs (cellsFrom (L + 1) scope.names []) (fun _ => .none) ++ σ1)

theorem comp_st {scope : Scope} {cl : List (Str × Addr)} {L : Addr} {names : List Str} {hk : scope.kind = .function} {nd : names.Nodup} {mm : Ms} {τ cs : Sto} :
    (((L, O.frame names mm) :: (cs ++ c.st m τ) : Sto)).Perm ((c.comp m scope cl L names hk nd).st mm (cs ++ τ)) := by
  refine .cons _ ?_
  show List.Perm (cs ++ ((c.env.locals, O.frame c.names m) :: (c.F ++ τ))) (((c.env.locals, O.frame c.names m) :: c.F) ++ (cs ++ τ))
  rw [← List.cons_append, ← List.append_assoc, ← List.append_assoc]
  exact List.Perm.append_right _ List.perm_append_comm

/-- a list comprehension, its value handed on or used -/
theorem comp_any {t iter elt : Expr} {ifs : List Expr} {scope : Scope} {pos : Pos} {cl : List (Str × Addr)} {names : List Str} {nd : names.Nodup} {K : List V → Sto → Prop} {use : Option (Value → Sem Unit)} (hk : scope.kind = .function)
    (ndc : ((cellsFrom 0 scope.names []).map (·.1)).Nodup) (hnames : ∀ x ∈ scope.names, x.2 = .local → scope.names.lookup x.1 = some .local) (hclos : closureFor scope c.env = pure cl) (hs : ∀ x, foldedSetIterable iter c.env x = pure x)
    {s : Shared} (R : Rel S0 (c.st m σ) s) {Q : Value → Shared → Prop} {E : Value → Shared → Prop} (h : Lc prog w S0 c t iter elt ifs scope cl names hk nd m σ K)
    (k : ∀ acc L ys mm σ' s', Rel S0 ((L, .frame names mm) :: c.st m ((acc, .list ys) :: σ')) s' → K ys σ' → match use with
      | .none => ∀ s'', Rel S0 (c.st m ((acc, .list ys) :: σ')) s'' → Q (.ref acc) s''
      | some u => wpAny (model prog w) c.A (u (.ref acc)) (fun _ s1 => ∃ m1 σ1, Rel S0 ((L, .frame names mm) :: c.st m1 σ1) s1 ∧ ∀ s'', Rel S0 (c.st m1 σ1) s'' → Q .none s'') E s') :
    wpAny (model prog w) c.A (comprehension (.ListComp elt [⟨t, iter, ifs, 0⟩] scope pos) scope c.env (firstIterPos [⟨t, iter, ifs, 0⟩] pos) (newList []) false (eval iter c.env) use) Q E s := by
  refine wpAny_comprehension_free rfl hs hclos hk hnames ?_
  refine Op.get h s R _ E fun v x σ1 s1 R1 hx ⟨xs, P, hI, hP, hT⟩ => ?_
  refine hI c.hand R1 hP hx _ E fun it o s2 I R2 => ?_
  refine wpAny_newObj_type ?_ (by size_fits)
  have R3 := R2.alloc (x := .list []) (o := { cls := .type "list", data := .seq #[] }) ⟨[], 0, rfl, trivial⟩ rfl s2.toks
  refine wp_newCompEnv ?_
  have R4 := R3.enterComp (names := names) (scope := scope) ndc
  generalize hacc : s2.heap.objs.size = acc at *
  generalize hL : (s2.heap.push { cls := .type "list", data := .seq #[] }).objs.size = L at *
  generalize hs4 : ({ s2 with heap := pushCells ((s2.heap.push { cls := .type "list", data := .seq #[] }).push { cls := .type "dict", data := .dict #[] }) scope.names } : Shared) = s4 at *
  have R5 : Rel S0 ((it, o 0) :: (acc, .list []) :: (c.comp m scope cl L names hk nd).st [] (cellObjs (cellsFrom (L + 1) scope.names []) (fun _ => .none) ++ σ1)) s4 := by
    refine R4.perm ?_
    refine ((List.Perm.cons _ (List.perm_middle.trans (.cons _ List.perm_middle))).trans ?_).trans (.cons _ (.cons _ comp_st))
    exact (List.Perm.swap ..).trans ((List.Perm.cons _ (List.Perm.swap ..)).trans (List.Perm.swap ..))
  refine comp_loop (c := c.comp m scope cl L names hk nd) I R5 (hT L) fun ys m' τ' s' R6 ⟨σ', hsub, hK⟩ => ?_
  have R7 : Rel S0 ((L, .frame names m') :: c.st m ((acc, .list ys) :: σ')) s' := by
    have p1 : (((acc, O.list ys) :: (c.comp m scope cl L names hk nd).st m' τ' : Sto)).Perm ((L, .frame names m') :: c.st m ((acc, .list ys) :: τ')) :=
      (List.Perm.swap ..).trans (.cons _ (List.perm_middle (l₁ := (c.env.locals, O.frame c.names m) :: c.F)).symm)
    exact (R6.perm p1).sub (.cons_cons _ (.cons_cons _ (.append (.refl _) (.cons_cons _ hsub))))
  have hk7 := k acc L ys m' σ' s' R7 hK
  cases use with
  | none =>
    obtain ⟨mm, hns, _⟩ := frame_ns R7
    refine ⟨mm, hns, fun h' hsb => hk7 _ ?_⟩
    have := R7.gone hsb.extBut s'.toks
    exact this
  | some u =>
    refine wpAny_mono hk7 (fun _ s1 ⟨m1, σ1, R8, h8⟩ => ?_) fun _ _ x => x
    obtain ⟨mm, hns, _⟩ := frame_ns R8
    refine ⟨mm, hns, fun h' hsb => h8 _ ?_⟩
    have := R8.gone hsb.extBut s1.toks
    exact this

/-- a list comprehension -/
theorem ev_comp {K : V → Sto → Prop} {t iter elt : Expr} {ifs : List Expr} {scope : Scope} {pos : Pos} {cl : List (Str × Addr)} {names : List Str} {nd : names.Nodup} (hk : scope.kind = .function)
    (ndc : ((cellsFrom 0 scope.names []).map (·.1)).Nodup) (hnames : ∀ x ∈ scope.names, x.2 = .local → scope.names.lookup x.1 = some .local) (hclos : closureFor scope c.env = pure cl)
    (h : Lc prog w S0 c t iter elt ifs scope cl names hk nd m σ fun ys σ' => ∀ a, K (.ref a) ((a, .list ys) :: σ')) (hs : ∀ x, foldedSetIterable iter c.env x = pure x := by intro _; rfl) :
    Ev prog w S0 c (.ListComp elt [⟨t, iter, ifs, 0⟩] scope pos) m σ K :=
  Op.of fun s R Q E k => by
    rw [eval_ListComp]
    exact comp_any (use := .none) hk ndc hnames hclos hs R h fun acc L ys mm σ' s' R' hK s'' R'' => k _ (.ref acc) _ s'' R'' rfl (hK acc)

/-- n = (a list comprehension), the stores exchanged -/
theorem ex_assign_comp {n : Str} {p pos pos' : Pos} {t iter elt : Expr} {ifs : List Expr} {scope : Scope} {cl : List (Str × Addr)} {names : List Str} {nd : names.Nodup} {rest : List Stmt} {K : Fl → Ms → Sto → Prop} (hk : scope.kind = .function)
    (ndc : ((cellsFrom 0 scope.names []).map (·.1)).Nodup) (hnames : ∀ x ∈ scope.names, x.2 = .local → scope.names.lookup x.1 = some .local) (hclos : closureFor scope c.env = pure cl)
    (h : Lc prog w S0 c t iter elt ifs scope cl names hk nd m σ fun ys σ' => ∀ a q, Sto1 prog w S0 (c.push q) m ((a, .list ys) :: σ') n (.ref a) fun m' σ2 => Ex prog w S0 c rest m' σ2 K)
    (hw : swapsWith (.ListComp elt [⟨t, iter, ifs, 0⟩] scope pos') (some (.Name n p)) pos.line c.env = pure true) (hs : ∀ x, foldedSetIterable iter c.env x = pure x := by intro _; rfl) :
    Ex prog w S0 c (.Assign [.Name n p] (.ListComp elt [⟨t, iter, ifs, 0⟩] scope pos') pos :: rest) m σ K :=
  Ex.of fun s R Q E k => wpAny_execs_cons (by
    rw [exec_Assign_Name_used _ _ _ _ hw]
    refine wpAny_bind (wpAny_standAt (wpAny_bind ?_))
    show wpAny _ _ (comprehension (.ListComp elt [⟨t, iter, ifs, 0⟩] scope pos') scope c.env (firstIterPos [⟨t, iter, ifs, 0⟩] pos') (newList []) false (eval iter c.env) (some (assign (.Name n p) c.env)) >>= fun _ => pure ()) _ _ _
    refine wpAny_bind (comp_any (use := some _) hk ndc hnames hclos hs R h fun acc L ys mm σ' s' R' hK => ?_)
    refine wpAny_assign_Name ((hK acc (L, .frame names mm)).get _ rfl s' (R'.perm push_perm) _ E fun m2 σ2 s2 R2 h2 => ⟨m2, σ2, R2.perm push_perm.symm, fun s'' R'' => wpAny_pure (wpAny_pure (Ex.get h2 s'' R'' Q E k))⟩))
end
end Mine
end

section
open PySem.Builtin PySem.Builtin.Str
set_option maxRecDepth 10000
namespace Mine
section
variable {prog : Program} {w : World} {S0 : Shared} {c : Cx} {m : Ms} {σ : Sto} {K : V → Sto → Prop}

theorem Cal.of {f : V} {xs : List V} (h : ∀ fv vs, Rz f fv → RzL xs vs → ∀ s, Rel S0 (c.st m σ) s → ∀ Q E, (∀ v V σ' s', Rel S0 (c.st m σ') s' → Rz V v → K V σ' → Q v s') → wpAny (model prog w) c.A (call fv vs) Q E s) : Cal prog w S0 c m σ f xs [] K :=
  fun fv vs ks hf hxs _ => Op.of fun s R Q E k => h fv vs hf hxs s R Q E k
theorem cal_bi {id : String} {xs : List V} (h : ∀ vs, RzL xs vs → ∀ s, Rel S0 (c.st m σ) s → ∀ Q E, (∀ v V σ' s', Rel S0 (c.st m σ') s' → Rz V v → K V σ' → Q v s') → wpAny (model prog w) c.A (call (.builtin id) vs) Q E s) : Cal prog w S0 c m σ (.abs (.builtin id)) xs [] K :=
  Cal.of fun fv vs hf hxs => by obtain rfl : fv = .builtin id := hf; exact h vs hxs
theorem cal_ty {T : String} {xs : List V} (h : ∀ vs, RzL xs vs → ∀ s, Rel S0 (c.st m σ) s → ∀ Q E, (∀ v V σ' s', Rel S0 (c.st m σ') s' → Rz V v → K V σ' → Q v s') → wpAny (model prog w) c.A (call (.type T) vs) Q E s) : Cal prog w S0 c m σ (.abs (.type T)) xs [] K :=
  Cal.of fun fv vs hf hxs => by obtain rfl : fv = .type T := hf; exact h vs hxs
theorem RzL.one {x : V} {vs : List Value} (h : RzL [x] vs) : ∃ v, vs = [v] ∧ Rz x v := by
  cases vs with | nil => exact h.elim | cons v vs => cases vs with | nil => exact ⟨v, rfl, h.1⟩ | cons => exact h.2.elim
theorem RzL.two {x y : V} {vs : List Value} (h : RzL [x, y] vs) : ∃ v u, vs = [v, u] ∧ Rz x v ∧ Rz y u := by
  cases vs with | nil => exact h.elim | cons v vs => obtain ⟨u, rfl, hu⟩ := RzL.one h.2; exact ⟨v, u, rfl, h.1, hu⟩
theorem RzL.three {x y z : V} {vs : List Value} (h : RzL [x, y, z] vs) : ∃ v u t, vs = [v, u, t] ∧ Rz x v ∧ Rz y u ∧ Rz z t := by
  cases vs with | nil => exact h.elim | cons v vs => obtain ⟨u, t, rfl, hu⟩ := RzL.two h.2; exact ⟨v, u, t, rfl, h.1, hu⟩
theorem Rel.keeps {τ : Sto} {s : Shared} (R : Rel S0 τ s) {h' : Heap} (k : ∀ b o, s.heap.get? b = some o → h'.get? b = some o) (t : Nat) : Rel S0 τ { s with heap := h', toks := t } := R.grow k t

noncomputable def one (n : Nat) : PySem.Str := ⟨#[n]⟩
theorem cal_chr {i : Int} (h0 : 0 ≤ i) (h1 : i ≤ 0x10FFFF) (h : K (.str (one i.toNat)) σ) : Cal prog w S0 c m σ (.abs (.builtin "chr")) [.int i] [] K := cal_bi fun vs hv s R Q E k => by
  obtain ⟨v, rfl, t, rfl⟩ := hv.one
  exact P.chr_of_int (by simp; omega) (k _ (.str (one i.toNat)) _ _ (R.toks _) ⟨_, rfl⟩ h)
theorem cal_ord {n : Nat} (h : K (.int n) σ) : Cal prog w S0 c m σ (.abs (.builtin "ord")) [.str (one n)] [] K := cal_bi fun vs hv s R Q E k => by
  obtain ⟨v, rfl, t, rfl⟩ := hv.one
  exact P.ord_of_char (k _ (.int n) _ _ (R.toks _) ⟨_, rfl⟩ h)
theorem cal_len_str {x : PySem.Str} (hf : x.length < 2 ^ 63) (h : K (.int x.length) σ) : Cal prog w S0 c m σ (.abs (.builtin "len")) [.str x] [] K := cal_bi fun vs hv s R Q E k => by
  obtain ⟨v, rfl, t, rfl⟩ := hv.one
  exact P.len_str (by omega) (k _ (.int x.length) _ _ (R.toks _) ⟨_, rfl⟩ h)
theorem cal_len_list {a : Addr} {xs : List V} (ha : (a, O.list xs) ∈ c.st m σ) (hf : xs.length < 2 ^ 63) (h : K (.int xs.length) σ) : Cal prog w S0 c m σ (.abs (.builtin "len")) [.ref a] [] K := cal_bi fun vs hv s R Q E k => by
  obtain ⟨v, rfl, rfl⟩ := hv.one
  obtain ⟨us, n, hl, hz⟩ := list_at R ha
  exact call_len_list hl.isList (by rw [List.size_toArray, ← hz.length]; omega) (k _ (.int xs.length) _ _ (R.toks _) ⟨_, by rw [List.size_toArray, ← hz.length]⟩ h)
theorem cal_min2 {a b : Int} (h : K (.int (min a b)) σ) : Cal prog w S0 c m σ (.abs (.builtin "min")) [.int a, .int b] [] K := cal_bi fun vs hv s R Q E k => by
  obtain ⟨v, u, rfl, ⟨t, rfl⟩, t', rfl⟩ := hv.two
  refine min_two_ints c.hand fun h' tk hk => k _ (.int (min a b)) σ _ (R.keeps hk tk) ?_ h
  by_cases hb : b < a
  · rw [if_pos hb, show min a b = b by omega]; exact ⟨_, rfl⟩
  · rw [if_neg hb, show min a b = a by omega]; exact ⟨_, rfl⟩
theorem ints_of : ∀ {ns : List Int} {vs : List Value}, RzL (ns.map .int) vs → ∃ xs : List (Int × Tok), vs = xs.map (fun p => Value.int p.1 p.2) ∧ xs.map (·.1) = ns
  | [], [], _ => ⟨[], rfl, rfl⟩
  | [], _ :: _, h => h.elim
  | _ :: _, [], h => h.elim
  | n :: ns, v :: vs, ⟨⟨t, e⟩, h⟩ => by
    obtain ⟨xs, rfl, rfl⟩ := ints_of h
    exact ⟨(n, t) :: xs, by rw [e]; rfl, rfl⟩
theorem cal_sum {a : Addr} {ns : List Int} (ha : (a, O.list (ns.map .int)) ∈ c.st m σ) (h : K (.int ns.sum) σ) : Cal prog w S0 c m σ (.abs (.builtin "sum")) [.ref a] [] K := cal_bi fun vs hv s R Q E k => by
  obtain ⟨v, rfl, rfl⟩ := hv.one
  obtain ⟨us, n, hl, hz⟩ := list_at R ha
  obtain ⟨xs, rfl, rfl⟩ := ints_of hz
  have hl' : s.heap.IsList a (intItems xs.toArray) := by
    have := hl.isList
    rw [show (xs.map fun p => Value.int p.1 p.2).toArray = intItems xs.toArray by simp [intItems]] at this
    exact this
  refine sum_intListG c.hand hl' fun h' tk t' hk => k _ (.int (xs.map (·.1)).sum) σ _ (R.keeps hk tk) ⟨t', ?_⟩ h
  rw [preSum_eq, List.take_of_length_le (by simp)]

/- ranges -/
theorem cal_range1 {n : Int} (h : ∀ a, K (.ref a) ((a, .rng 0 n 1) :: σ)) : Cal prog w S0 c m σ (.abs (.type "range")) [.int n] [] K := cal_ty fun vs hv s R Q E k => by
  obtain ⟨v, rfl, t, rfl⟩ := hv.one
  exact call_range_1 (k _ (.ref s.heap.objs.size) _ _ (R.new (x := .rng 0 n 1) ⟨_, _, _, rfl⟩ rfl _) rfl (h _))
theorem cal_range3 {n n' d : Int} (hd : d ≠ 0) (hp : Builtin.divisionGoesByPylong (n' - n) d = false) (h : ∀ a, K (.ref a) ((a, .rng n n' d) :: σ)) : Cal prog w S0 c m σ (.abs (.type "range")) [.int n, .int n', .int d] [] K := cal_ty fun vs hv s R Q E k => by
  obtain ⟨v, u, y, rfl, ⟨t, rfl⟩, ⟨t', rfl⟩, t'', rfl⟩ := hv.three
  exact call_range_3 hd (k _ (.ref s.heap.objs.size) _ _ (R.new (x := .rng n n' d) ⟨_, _, _, rfl⟩ rfl s.toks) rfl (h _)) (.inl hp)
theorem items_of {P : Nat → Value → Prop} {acc : Array Value} {n : Nat} {f : Nat → V} (h : ItemsOf P acc n) (hf : ∀ i v, P i v → Rz (f i) v) : RzL ((List.range n).map f) acc.toList := by
  obtain ⟨hs, hi⟩ := h
  have key : ∀ (k : Nat) (vs : List Value), (∀ j v, vs[j]? = some v → Rz (f (k + j)) v) → RzL ((List.range' k vs.length).map f) vs := by
    intro k vs
    induction vs generalizing k with
    | nil => intro _; trivial
    | cons v vs ih =>
      intro hh
      refine ⟨by simpa using hh 0 v rfl, ih (k + 1) fun j u hj => ?_⟩
      have := hh (j + 1) u (by simpa using hj)
      rwa [show k + (j + 1) = k + 1 + j by omega] at this
  have := key 0 acc.toList fun j v hj => by rw [Nat.zero_add]; exact hf _ _ (hi j v (by simpa using hj))
  rw [List.range_eq_range', ← hs]
  simpa using this
theorem cal_list_range {r : Addr} {a b d : Int} {n : Nat} (hr : (r, O.rng a b d) ∈ c.st m σ) (hs : Builtin.Range.small a b d = true) (hn : Builtin.Range.rangeSize a b d = n) (hl : n ≤ 2 ^ 24)
    (h : ∀ l, K (.ref l) ((l, .list ((List.range n).map fun j : Nat => V.int (a + (j : Int) * d))) :: σ)) : Cal prog w S0 c m σ (.abs (.type "list")) [.ref r] [] K := cal_ty fun vs hv s R Q E k => by
  obtain ⟨v, rfl, rfl⟩ := hv.one
  obtain ⟨_, o, ho, t, u, x, rfl⟩ := R.objs _ hr
  refine call_list_range c.hand ho hs hn hl fun h' tk acc' c' hk hS hit => ?_
  have hz := items_of (f := fun j : Nat => V.int (a + (j : Int) * d)) hit fun i v ⟨t, e⟩ => ⟨t, e⟩
  refine k _ (.ref s.heap.objs.size) _ _ (st_new _ ?_) rfl (h _)
  have R' := R.grow hk tk
  refine ⟨R'.gens, R'.os, R'.keep, ?_, fun p hp => ?_⟩
  · rw [List.map_cons, List.nodup_cons]
    refine ⟨fun hm => ?_, R'.nodup⟩
    obtain ⟨p, hp, e⟩ := List.mem_map.mp hm
    exact absurd (e ▸ R.lt hp) (Nat.lt_irrefl _)
  · rcases List.mem_cons.mp hp with rfl | hp
    · exact ⟨R.fresh, _, hS, acc'.toList, c', by simp, hz⟩
    · exact R'.objs p hp
end
end Mine
end

section
open PySem.Builtin PySem.Builtin.Str
set_option maxRecDepth 10000
namespace Mine
section
variable {prog : Program} {w : World} {S0 : Shared} {c : Cx} {m : Ms} {σ : Sto} {K : V → Sto → Prop}

theorem Mth.of {x : V} {name : PySem.Str} {K : V → List V → Sto → Prop} (h : ∀ v, Rz x v → ∀ pl s, Rel S0 (c.st m σ) s → ∀ (Q : Value × List Value → Shared → Prop) E, (∀ r f xs σ' s', Rel S0 (c.st m σ') s' → Rz f r.1 → RzL xs r.2 → K f xs σ' → Q r s') → wpAny (model prog w) c.A (getMethod v name pl) Q E s) :
    Mth prog w S0 c m σ x name K := fun v hv pl s R Q E k => h v hv pl s R Q E fun r f xs σ' s' R' h1 h2 h3 => k r (c.st m σ') s' R' ⟨f, xs, σ', h1, h2, Imp.rfl, h3⟩

theorem mth_lower {x : PySem.Str} {K : V → List V → Sto → Prop} (h : K (.abs (.builtin "str.lower")) [.str x] σ) : Mth prog w S0 c m σ (.str x) "lower" K :=
  Mth.of fun v hv pl s R Q E k => by obtain ⟨t, rfl⟩ := hv; exact GM.lower (k _ (.abs (.builtin "str.lower")) [.str x] σ s R rfl ⟨⟨t, rfl⟩, trivial⟩ h)
theorem mth_join {x : PySem.Str} {K : V → List V → Sto → Prop} (h : K (.abs (.builtin "str.join")) [.str x] σ) : Mth prog w S0 c m σ (.str x) "join" K :=
  Mth.of fun v hv pl s R Q E k => by obtain ⟨t, rfl⟩ := hv; exact GM.join (k _ (.abs (.builtin "str.join")) [.str x] σ s R rfl ⟨⟨t, rfl⟩, trivial⟩ h)
theorem mth_split {x : PySem.Str} {K : V → List V → Sto → Prop} (h : K (.abs (.builtin "str.split")) [.str x] σ) : Mth prog w S0 c m σ (.str x) "split" K :=
  Mth.of fun v hv pl s R Q E k => by obtain ⟨t, rfl⟩ := hv; exact GM.split (k _ (.abs (.builtin "str.split")) [.str x] σ s R rfl ⟨⟨t, rfl⟩, trivial⟩ h)
theorem mth_append {a : Addr} {xs : List V} {K : V → List V → Sto → Prop} (ha : (a, O.list xs) ∈ c.st m σ) (h : K (.abs (.builtin "list.append")) [.ref a] σ) : Mth prog w S0 c m σ (.ref a) "append" K :=
  Mth.of fun v hv pl s R Q E k => by
    obtain rfl : v = .ref a := hv
    obtain ⟨vs, n, hl, hz⟩ := list_at R ha
    exact getMethod_list_append hl rfl rfl (k _ (.abs (.builtin "list.append")) [.ref a] σ s R rfl ⟨rfl, trivial⟩ h)

theorem cal_lower {x : PySem.Str} (hf : x.length ≤ 5592405) (h : K (.str (Txt.lower x)) σ) : Cal prog w S0 c m σ (.abs (.builtin "str.lower")) [.str x] [] K := cal_bi fun vs hv s R Q E k => by
  obtain ⟨v, rfl, t, rfl⟩ := hv.one
  exact SCL.lower hf fun _ => k _ (.str (Txt.lower x)) _ _ (R.toks _) ⟨_, rfl⟩ h
theorem strs_of : ∀ {ys : List PySem.Str} {vs : List Value}, RzL (ys.map .str) vs → StrsAre vs ys
  | [], [], _ => .nil
  | [], _ :: _, h => h.elim
  | _ :: _, [], h => h.elim
  | y :: ys, v :: vs, ⟨⟨t, e⟩, h⟩ => by rw [e]; exact .cons y t (strs_of h)
theorem cal_join {x : PySem.Str} {a : Addr} {ys : List PySem.Str} (ha : (a, O.list (ys.map .str)) ∈ c.st m σ) (hok : (ys.map (·.length)).sum + ys.length * x.length ≤ 16777216) (h : K (.str (Txt.join x ys)) σ) :
    Cal prog w S0 c m σ (.abs (.builtin "str.join")) [.str x, .ref a] [] K := cal_bi fun vs hv s R Q E k => by
  obtain ⟨v, u, rfl, ⟨t, rfl⟩, rfl⟩ := hv.two
  obtain ⟨us, n, hl, hz⟩ := list_at R ha
  exact join_list hl.isList (strs_of hz) hok fun t' k' => k _ (.str (Txt.join x ys)) _ _ (R.toks _) ⟨_, rfl⟩ h
theorem cal_append {a : Addr} {xs : List V} {x : V} {σ' : Sto} (hu : Upd a (.list xs) (.list (xs ++ [x])) σ σ') (hs : xs.length ≤ sizeLine) (h : K .none σ') : Cal prog w S0 c m σ (.abs (.builtin "list.append")) [.ref a, x] [] K := cal_bi fun vs hv s R Q E k => by
  obtain ⟨v, u, rfl, rfl, hu'⟩ := hv.two
  obtain ⟨us, n, hl, hz⟩ := list_at R (mem_st hu.mem)
  refine wpAny_list_append_plain ⟨n, hl⟩ (fun h' ⟨n', hl'⟩ hsb => k _ .none σ' _ ?_ rfl h) (by rw [List.size_toArray, ← hz.length]; exact hs)
  have U : Upd a (.list xs) (.list (xs ++ [x])) (c.st m σ) (c.st m σ') := .tail (hu.app _)
  exact Rel.put U R hsb hl' ⟨us ++ [u], n', by simp, hz.snoc hu'⟩ s.toks

/- is -/
theorem cmp_is_none {x : V} {b : Bool} (hb : ∀ v, Rz x v → (v == .none) = b) (h : K (.bool b) σ) : Cmp prog w S0 c m σ .Is x .none K := by
  rintro v _ hv rfl; exact Op.of fun s R Q E k => is_none_gen (by rw [hb v hv]; exact k _ (.bool b) σ s R rfl h)
theorem cmp_isnot_none {x : V} {b : Bool} (hb : ∀ v, Rz x v → (!(v == .none)) = b) (h : K (.bool b) σ) : Cmp prog w S0 c m σ .IsNot x .none K := by
  rintro v _ hv rfl; exact Op.of fun s R Q E k => isnot_none_gen (by rw [hb v hv]; exact k _ (.bool b) σ s R rfl h)
theorem nn_str {x : PySem.Str} : ∀ v, Rz (.str x) v → (!(v == .none)) = true := by rintro _ ⟨t, rfl⟩; rfl
theorem nn_ref {a : Addr} : ∀ v, Rz (.ref a) v → (!(v == .none)) = true := by rintro _ rfl; rfl
theorem nn_none : ∀ v, Rz .none v → (!(v == .none)) = false := by rintro _ rfl; rfl
theorem cmp_is_ty {X Y : String} (h : K (.bool (Value.type X == Value.type Y)) σ) : Cmp prog w S0 c m σ .Is (.abs (.type X)) (.abs (.type Y)) K := by
  rintro _ _ rfl rfl; exact Op.of fun s R Q E k => wpAny_pure (a := Value.bool (Value.type X == Value.type Y)) (k _ (.bool _) σ s R rfl h)
theorem cmp_isnot_ty {X Y : String} (h : K (.bool (!(Value.type X == Value.type Y))) σ) : Cmp prog w S0 c m σ .IsNot (.abs (.type X)) (.abs (.type Y)) K := by
  rintro _ _ rfl rfl; exact Op.of fun s R Q E k => isnot_type (k _ (.bool _) σ s R rfl h)
theorem cal_type_str {x : PySem.Str} (h : K (.abs (.type "str")) σ) : Cal prog w S0 c m σ (.abs (.type "type")) [.str x] [] K := cal_ty fun vs hv s R Q E k => by
  obtain ⟨v, rfl, t, rfl⟩ := hv.one
  exact call_type_of (typeIs_str _ _ _) (by decide) (k _ (.abs (.type "str")) σ s R rfl h)
theorem cal_type_list {a : Addr} {xs : List V} (ha : (a, O.list xs) ∈ c.st m σ) (h : K (.abs (.type "list")) σ) : Cal prog w S0 c m σ (.abs (.type "type")) [.ref a] [] K := cal_ty fun vs hv s R Q E k => by
  obtain ⟨v, rfl, rfl⟩ := hv.one
  obtain ⟨us, n, hl, hz⟩ := list_at R ha
  obtain ⟨hh, g, d, t, os⟩ := s
  exact call_type_obj hl rfl (k _ (.abs (.type "list")) σ _ R rfl h)

/- in a list -/
theorem cmp_in_ints {a : Addr} {ns : List Int} {i : Int} (ha : (a, O.list (ns.map .int)) ∈ c.st m σ) (h : K (.bool (ns.contains i)) σ) : Cmp prog w S0 c m σ .In (.int i) (.ref a) K := by
  rintro _ _ ⟨t, rfl⟩ rfl
  refine Op.of fun s R Q E k => ?_
  obtain ⟨us, n, hl, hz⟩ := list_at R ha
  obtain ⟨xs, rfl, rfl⟩ := ints_of hz
  refine SeqRoads2.in_list (fun y => match y with | .int j _ => j == i | _ => false) (fun y hy => ?_) hl (k _ (.bool _) σ s R ?_ h)
  · obtain ⟨p, hp, rfl⟩ := List.mem_map.mp (Array.mem_toList_iff.mpr hy)
    exact MeetsSeq.EqGives.int _ _ _ _
  · show Value.bool _ = Value.bool _
    rw [List.any_toArray, List.any_map, List.contains_eq_any_beq, List.any_map]
    congr 2
    funext p
    show (p.1 == i) = (i == p.1)
    rw [Bool.eq_iff_iff, beq_iff_eq, beq_iff_eq]
    exact eq_comm
theorem cps_beq (x y : PySem.Str) : (x.cps.toList == y.cps.toList) = (x == y) := by
  rw [Bool.eq_iff_iff]
  simp only [beq_iff_eq]
  constructor
  · intro h; cases x; cases y; congr 1; exact Array.toList_inj.mp h
  · rintro rfl; rfl
theorem cmp_in_strs {a : Addr} {ys : List PySem.Str} {x : PySem.Str} (ha : (a, O.list (ys.map .str)) ∈ c.st m σ) (h : K (.bool (ys.contains x)) σ) : Cmp prog w S0 c m σ .In (.str x) (.ref a) K := by
  rintro _ _ ⟨t, rfl⟩ rfl
  refine Op.of fun s R Q E k => ?_
  obtain ⟨us, n, hl, hz⟩ := list_at R ha
  obtain ⟨l, rfl, rfl⟩ := strsAre_values (strs_of hz)
  refine SeqRoads2.in_list (fun y => match y with | .str j _ => j.cps.toList == x.cps.toList | _ => false) (fun y hy => ?_) hl (k _ (.bool _) σ s R ?_ h)
  · unfold strValues at hy
    obtain ⟨p, hp, rfl⟩ := List.mem_map.mp (Array.mem_toList_iff.mpr hy)
    exact SeqRoads2.EqGives.str _ _ _ _
  · show Value.bool _ = Value.bool _
    unfold strValues
    rw [List.any_toArray, List.any_map, List.contains_eq_any_beq, List.any_map]
    congr 2
    funext p
    show (p.1.cps.toList == x.cps.toList) = (x == p.1)
    rw [cps_beq, Bool.eq_iff_iff, beq_iff_eq, beq_iff_eq]
    exact eq_comm

/- storing an item -/
theorem IsL.setItem {A : Around} {E : Value → Shared → Prop} {s : Shared} {l : Addr} {items : Array Value} {n : Nat} {k : Int} {t : Tok} {v : Value} {Q : Unit → Shared → Prop} (hl : IsL s.heap l items n)
    (h0 : 0 ≤ k) (hfit : k < 2 ^ 63) (hn : k < items.size)
    (hQ : ∀ h' n', IsL h' l (items.setIfInBounds k.toNat v) n' → Heap.SameBut l s.heap h' → Q () { s with heap := h' }) : wpAny (model prog w) A (PySem.setItem (.ref l) (.int k t) v) Q E s := by
  have hl' := hl.isList
  unfold PySem.setItem
  try with_reducible refine wpAny_holding ?_
  first | refine wpAny_bind (wpAny_pure ?_) | skip
  refine wpAny_bind (wpAny_sequenceKey hl'.typeIs (by decide) ?_)
  refine wpAny_bind (wpAny_callSpecial?_slot (name := Str.ofString "__setitem__") hl'.typeIs slot_list_setitem
    (wpAny_call_entry slot_list_setitem hl'.typeIs entry_list_setitem ?_ (args_list_setitem _ _ _)))
  show wpAny _ _ (Builtin.List.listSubscript? (.int k t) >>= _) _ _ s
  refine wpAny_bind (wpAny_listSubscript_int (fitsIndex_of h0 hfit) ?_)
  clear hfit
  obtain ⟨j, rfl⟩ := Int.eq_ofNat_of_zero_le h0
  have hj : j < items.size := by omega
  have hx' : items[j]? = some items[j] := Array.getElem?_eq_getElem hj
  show wpAny _ _ ((seqItemAt l j >>= fun r => pure (r.map (j, ·))) >>= _) _ _ s
  refine wpAny_bind (wpAny_bind (wpAny_seqItemAt hl rfl (wpAny_pure ?_)))
  rw [hx']
  show wpAny _ _ (setSeqItemAt l j v >>= _) _ _ s
  refine wpAny_bind (wpAny_setSeqItemAt hl rfl ?_)
  exact wpAny_bind (wpAny_pure (wpAny_pure ⟨.none, rfl, wpAny_pure (hQ _ _ (hl.update (·.setIfInBounds j v)) (Heap.SameBut.update ..))⟩))
theorem RzL.set {xs : List V} {vs : List Value} {x : V} {v : Value} (h : RzL xs vs) (hx : Rz x v) : ∀ i, RzL (xs.set i x) (vs.set i v) := by
  induction xs generalizing vs with
  | nil => cases vs with | nil => intro i; trivial | cons => exact h.elim
  | cons y ys ih => cases vs with
    | nil => exact h.elim
    | cons u us => intro i; cases i with
      | zero => exact ⟨hx, h.2⟩
      | succ i => exact ⟨h.1, ih h.2 i⟩
end
end Mine
end

section
set_option maxRecDepth 10000
namespace Mine
section
variable {prog : Program} {w : World} {S0 : Shared} {c : Cx} {m : Ms} {σ : Sto} {K : V → Sto → Prop}

/- lists compared -/
theorem range_all_eq {α : Type} [BEq α] [LawfulBEq α] : ∀ {xs ys : List α}, xs.length = ys.length → ((List.range xs.length).all fun j => xs[j]? == ys[j]?) = (xs == ys) := by
  intro xs ys h
  rw [Bool.eq_iff_iff, List.all_eq_true, beq_iff_eq]
  constructor
  · intro hh
    refine List.ext_getElem? fun j => ?_
    rcases Nat.lt_or_ge j xs.length with hj | hj
    · exact eq_of_beq (hh j (List.mem_range.mpr hj))
    · rw [List.getElem?_eq_none hj, List.getElem?_eq_none (h ▸ hj)]
  · rintro rfl j _; exact beq_self_eq_true _
theorem len_ne {α : Type} [BEq α] [LawfulBEq α] {xs ys : List α} (h : xs.length ≠ ys.length) : (xs == ys) = false := beq_eq_false_iff_ne.mpr fun e => h (e ▸ rfl)

theorem lists_eq {α : Type} [BEq α] [LawfulBEq α] (f : α → V) (hf : ∀ A s x y v u, Rz (f x) v → Rz (f y) u → SeqAt.EqAt A s v u (x == y)) {A : Around} {s : Shared} {a b : Addr} {xs ys : List α} {vs us : List Value} {n k : Nat}
    (hl : IsL s.heap a vs.toArray n) (hb : IsL s.heap b us.toArray k) (hz : RzL (xs.map f) vs) (hz' : RzL (ys.map f) us) (hu : A.units < cLine) :
    SeqAt.RcAt A s (.ref a) (.ref b) (xs == ys) ∧ SeqAt.RcNeAt A s (.ref a) (.ref b) (!(xs == ys)) := by
  have l1 : vs.length = xs.length := by simpa using hz.length.symm
  have l2 : us.length = ys.length := by simpa using hz'.length.symm
  by_cases h : xs.length = ys.length
  · have he : ∀ j (h1 : j < vs.toArray.size) (h2 : j < us.toArray.size), SeqAt.EqAt A.in1 s vs.toArray[j] us.toArray[j] (xs[j]? == ys[j]?) := fun j h1 h2 => by
      simp only [List.size_toArray] at h1 h2
      have g1 : (xs.map f)[j]? = some (f xs[j]) := by simp [List.getElem?_eq_getElem (l1 ▸ h1)]
      have g2 : (ys.map f)[j]? = some (f ys[j]) := by simp [List.getElem?_eq_getElem (l2 ▸ h2)]
      obtain ⟨v, hv, hvz⟩ := hz.get g1
      obtain ⟨u, hu, huz⟩ := hz'.get g2
      rw [List.getElem?_eq_getElem h1] at hv
      rw [List.getElem?_eq_getElem h2] at hu
      cases hv; cases hu
      have := hf A.in1 s xs[j] ys[j] _ _ hvz huz
      rw [List.getElem?_eq_getElem (l1 ▸ h1), List.getElem?_eq_getElem (l2 ▸ h2)]
      simpa using this
    have e := range_all_eq h
    rw [← l1] at e
    constructor
    · have := SeqAt.RcAt.lists hl.isList hb.isList (by simp [l1, l2, h]) hu he
      rw [List.size_toArray, e] at this; exact this
    · have := SeqAt.RcNeAt.lists hl.isList hb.isList (by simp [l1, l2, h]) hu he
      rw [List.size_toArray, e] at this; exact this
  · have hs : (vs.toArray.size != us.toArray.size) = true := by simp [l1, l2, h]
    rw [len_ne h]
    exact ⟨SeqAt.RcAt.lists_lengths hl.isList hb.isList hs hu, SeqAt.RcNeAt.lists_lengths hl.isList hb.isList hs hu⟩
theorem eqat_int (A : Around) (s : Shared) (x y : Int) (v u : Value) (h : Rz (.int x) v) (h' : Rz (.int y) u) : SeqAt.EqAt A s v u (x == y) := by
  obtain ⟨t, rfl⟩ := h; obtain ⟨t', rfl⟩ := h'; exact SeqAt.EqAt.int_int _ _ _ _
theorem eqat_str (A : Around) (s : Shared) (x y : Str) (v u : Value) (h : Rz (.str x) v) (h' : Rz (.str y) u) : SeqAt.EqAt A s v u (x == y) := by
  obtain ⟨t, rfl⟩ := h; obtain ⟨t', rfl⟩ := h'; exact SeqAt.EqAt.str_str _ _ _ _

theorem cmp_lne {α : Type} [BEq α] [LawfulBEq α] (f : α → V) (hf : ∀ A s x y v u, Rz (f x) v → Rz (f y) u → SeqAt.EqAt A s v u (x == y)) {a b : Addr} {xs ys : List α} (ha : (a, O.list (xs.map f)) ∈ c.st m σ) (hb : (b, O.list (ys.map f)) ∈ c.st m σ) (hu : c.A.units < cLine)
    (h : K (.bool (!(xs == ys))) σ) : Cmp prog w S0 c m σ .NotEq (.ref a) (.ref b) K := by
  rintro _ _ rfl rfl
  refine Op.of fun s R Q E k => ?_
  obtain ⟨vs, n, hl, hz⟩ := list_at R ha
  obtain ⟨us, n', hl', hz'⟩ := list_at R hb
  exact EqBoolInt.of_rcne (lists_eq f hf hl hl' hz hz' hu).2 (k _ (.bool _) σ s R rfl h)

/-- l[i] = e -/
theorem ex_setitem {o i e : Expr} {p pos : Pos} {rest : List Stmt} {K : Fl → Ms → Sto → Prop}
    (h : Ev prog w S0 c e m σ fun x σ1 => Ev prog w S0 c o m σ1 fun y σ2 => Ev prog w S0 c i m σ2 fun z σ3 => ∃ a xs j σ4, y = .ref a ∧ z = .int j ∧ 0 ≤ j ∧ j < xs.length ∧ xs.length < 2 ^ 63 ∧
      Upd a (.list xs) (.list (xs.set j.toNat x)) σ3 σ4 ∧ Ex prog w S0 c rest m σ4 K)
    (hs : swapsWith e (some (.Subscript o i p)) pos.line c.env = pure false := by rfl) : Ex prog w S0 c (.Assign [.Subscript o i p] e pos :: rest) m σ K :=
  Ex.of fun s R Q E k => wpAny_execs_cons (wpAny_Assign_Subscript (Op.get h s R _ E fun v x σ1 s1 R1 hx h1 => Op.get h1 s1 R1 _ E fun u y σ2 s2 R2 hy h2 => Op.get h2 s2 R2 _ E fun t z σ3 s3 R3 hz h3 => by
    obtain ⟨a, xs, j, σ4, rfl, rfl, h0, hj, hl, hu, hk⟩ := h3
    obtain rfl : u = .ref a := hy
    obtain ⟨tk, rfl⟩ := hz
    obtain ⟨vs, n, hls, hzs⟩ := list_at R3 (mem_st hu.mem)
    refine IsL.setItem hls h0 (by omega) (by rw [List.size_toArray, ← hzs.length]; exact hj) fun h' n' hl' hsb => ?_
    have U : Upd a (.list xs) (.list (xs.set j.toNat x)) (c.st m σ3) (c.st m σ4) := .tail (hu.app _)
    exact Ex.get hk _ (Rel.put U R3 hsb hl' ⟨vs.set j.toNat v, n', by simp, hzs.set hx _⟩ s3.toks) Q E k) hs)

/- iter, next -/
theorem cal_iter {a : Addr} {xs : List V} (ha : (a, O.list xs) ∈ c.st m σ) (h : ∀ it, K (.ref it) ((it, .liter a 0) :: σ)) : Cal prog w S0 c m σ (.abs (.builtin "iter")) [.ref a] [] K := cal_bi fun vs hv s R Q E k => by
  obtain ⟨v, rfl, rfl⟩ := hv.one
  obtain ⟨us, n, hl, hz⟩ := list_at R ha
  refine call_function_entry (by decide +kernel) (by decide +kernel) PySem.W.kdk_entry_iter (PySem.W.kdk_args_iter _) ?_
  unfold Builtin.«iter»
  refine wpAny_bind (m := someArgs "iter" 1 2 _) (wpAny_of_eq (a := [Value.ref a]) (by first | rfl | kernel_rfl!) ?_)
  show wpAny _ _ (pyIter (.ref a) >>= _) _ _ _
  refine wpAny_bind (wpAny_pyIter_list hl.isList ?_)
  exact wpAny_pure ⟨_, rfl, k _ (.ref s.heap.objs.size) _ _ (R.new (x := .liter a 0) ⟨rfl, rfl⟩ rfl s.toks) rfl (h _)⟩
theorem cal_next {it a : Addr} {xs : List V} {i : Nat} {x : V} {σ' : Sto} (ha : (a, O.list xs) ∈ c.st m σ) (hu : Upd it (.liter a i) (.liter a (i + 1)) σ σ') (hx : xs[i]? = some x) (h : K x σ') : Cal prog w S0 c m σ (.abs (.builtin "next")) [.ref it] [] K := cal_bi fun vs hv s R Q E k => by
  obtain ⟨v, rfl, rfl⟩ := hv.one
  obtain ⟨us, n, hl, hz⟩ := list_at R ha
  obtain ⟨y, hy, hyz⟩ := hz.get hx
  obtain ⟨_, o, ho, hc, hd⟩ := R.objs _ (mem_st hu.mem)
  have hit : s.heap.IsListIter it a i := ⟨o, ho, hc, hd⟩
  refine call_function_entry (by decide +kernel) (by decide +kernel) PySem.W.kdk_entry_next (PySem.W.kdk_args_next _) ?_
  unfold Builtin.«next»
  refine wpAny_bind (m := someArgs "next" 1 2 _) (wpAny_of_eq (a := [Value.ref it]) (by first | rfl | kernel_rfl!) ?_)
  dsimp only
  refine wpAny_bind (wpAny_specialOf (name := Str.ofString "__next__") hit.typeIs slot_listiter_next.lookup ?_)
  refine wpAny_ite_split (fun hab => absurd hab (by decide)) (fun _ => ?_)
  obtain ⟨ol, hol, _, nl, hdl⟩ := hl.isList
  refine wpAny_bind (wpAny_callSpecial?_slot (name := Str.ofString "__next__") hit.typeIs slot_listiter_next
    (wpAny_call_entry slot_listiter_next hit.typeIs entry_listiter_next ?_ (args_listiter_next _)))
  show wpAny _ _ (field (.ref it) 0 >>= _) _ _ s
  refine wpAny_bind (wpAny_field ho hd (x := .ref a) rfl ?_)
  show wpAny _ _ (if (Value.ref a == Value.none) = true then _ else _) _ _ s
  rw [if_neg (show ¬ ((Value.ref a == Value.none) = true) from Bool.false_ne_true)]
  show wpAny _ _ (field (.ref it) 1 >>= _) _ _ s
  refine wpAny_bind (wpAny_field ho hd (x := .int i 0) rfl ?_)
  show wpAny _ _ (seqItems? (.ref a) >>= _) _ _ s
  refine wpAny_bind (wpAny_seqItems hol hdl ?_)
  have hy' : us.toArray[i]? = some y := by simpa using hy
  simp only [Int.toNat_natCast, hy']
  refine wpAny_bind (wpAny_setField ho hd (by simp) (wpAny_pure ⟨y, rfl, wpAny_pure ⟨_, rfl, ?_⟩⟩))
  have U : Upd it (.liter a i) (.liter a (i + 1)) (c.st m σ) (c.st m σ') := .tail (hu.app _)
  refine k _ x σ' _ (Rel.put U R (Heap.SameBut.update ..) (Heap.get?_update_self _ ho (Obj.isFreed_of_fields (Obj.data_mapFields hd _))) ⟨(Obj.cls_mapFields ..).trans hc, ?_⟩ s.toks) hyz h
  rw [Obj.data_mapFields hd]; simp [rawInt]
end
end Mine
end

section
set_option maxRecDepth 100000
namespace Mine
section
variable {prog : Program} {w : World} {S0 : Shared} {c : Cx} {m : Ms} {σ : Sto} {K : V → Sto → Prop}

theorem walks_end {A : Around} (hh : A.handled = .none) (it l : Addr) (hne : l ≠ it) (items : Array Value) : Walks prog w A it [it, l] [it] 0 (fun _ _ => False) (fun _ h => h.IsListIter it l items.size ∧ h.IsList l items) where
  sub := fun b hb => by simp at hb; simp [hb]
  frame := fun _ _ _ st hk => ⟨st.1.at fun o e => hk it (by simp) o e, st.2.at fun o e => hk l (by simp) o e⟩
  item := fun i s Q E hi => absurd hi (Nat.not_lt_zero _)
  done := fun s Q E st hQ => wpAny_pyNext_list_end hh st.1 st.2 (by simp) fun h' he' => hQ h' s.toks fun b o hb e => he' b o (fun h => hb (by simp [h])) e
  self := fun _ _ _ _ st hQ => wpAny_pyIter_listiter st.1 hQ

theorem extend_end {A : Around} {s : Shared} {R : Result → Shared → Prop} {it l : Addr} {items : Array Value} (hh : A.handled = .none) (hit : s.heap.IsListIter it l items.size) (hl : s.heap.IsList l items) (hne : l ≠ it) (S : Addr) (res : Value) (c₀ : Nat)
    (hS : s.heap.get? S = some { cls := .type "list", data := .seq #[] c₀ }) (hSl : S ≠ l)
    (hR : ∀ h' tk acc' c', (∀ b o, b ≠ S → b ≠ it → s.heap.get? b = some o → h'.get? b = some o) → h'.get? S = some { cls := .type "list", dict := none, data := .seq acc' c', slots := #[] } → acc' = #[] → R (.ok (.ret res)) { s with heap := h', toks := tk }) :
    wpAny (model prog w) A.in1 (Builtin.List.listExtendWith (.ref S) (.ref it) res)
      (fun fin s' => match fin with | .done f => R (.ok f) s' | .again c' => c'.quiet = true ∧ codeAny (model prog w) A c' R s') (fun e s' => R (.error e) s') s := by
  have hSit : S ≠ it := fun e => by obtain ⟨o, ho, hc, hd⟩ := hit; rw [e, ho] at hS; cases hS; cases hd
  have hSf : S ∉ [it, l] := by simp [hSit, hSl]
  have W := (walks_end (prog := prog) (w := w) (A := A.in1) hh it l hne items).toS
  have T : s.TypeIs (.ref it) "list_iterator" := hit.typeIs
  unfold Builtin.List.listExtendWith
  refine wpAny_bind (wpAny_typeOf T ?_)
  have h1 : Builtin.List.listSameRef (.ref S) (.ref it) = false := by simp [Builtin.List.listSameRef, hSit]
  have h2 : (Value.type "list_iterator" == Value.type "list") = false := by decide
  have h3 : (Value.type "list_iterator" == Value.type "tuple") = false := by decide
  simp only [h1, h2, h3, Bool.or_false, Bool.false_eq_true, if_false]
  refine wpAny_bind (wpAny_pyIter_listiter hit ?_)
  refine wpAny_bind (wpAny_holding ?_)
  unfold Builtin.List.listLengthHint
  refine wpAny_bind (wpAny_specialOf T F.nolen_li ?_)
  show wpAny _ A.in1 (specialOf (Value.ref it) (Str.ofString "__length_hint__") >>= _) _ _ _
  refine wpAny_bind (wpAny_specialOf T F.hint_li ?_)
  generalize hid : ("list_iterator.__length_hint__" : String) = id0
  wp_delta
  rw [show splitId id0 = some ("list_iterator", "__length_hint__") from by subst hid; decide +kernel]
  subst hid
  refine wpAny_bind (wpAny_isInstance (b := true) T (by rw [isSubtype_type]; kernel_rfl) ?_)
  refine wpAny_pure ?_
  rw [if_neg (by decide)]
  refine wpAny_pure ⟨plainId_quiet F.plain_extend_loop _, codeAny_extend_loopS W (by decide) S hSf res 0 0 _ #[] c₀ rfl (Nat.zero_le _) ⟨hit, hl⟩ hS (ItemsOf.nil _) fun s' acc' c' hm hS' hacc => ?_⟩
  rw [Moved.eq_with hm]
  refine hR s'.heap s'.toks acc' c' (fun b o hb hbi e => hm.heap b o (fun hmem => ?_) e) hS' (Array.eq_empty_of_size_eq_zero hacc.1)
  rcases List.mem_cons.mp hmem with e' | hmem
  · exact hb e'
  · exact hbi (List.mem_singleton.mp hmem)

inductive Del (a : Addr) (x : O) : Sto → Sto → Prop
  | head {σ : Sto} : Del a x ((a, x) :: σ) σ
  | tail {p : Addr × O} {σ σ' : Sto} : Del a x σ σ' → Del a x (p :: σ) (p :: σ')
theorem Del.perm {a : Addr} {x : O} {σ σ' : Sto} (h : Del a x σ σ') : σ.Perm ((a, x) :: σ') := by
  induction h with
  | head => exact .refl _
  | tail _ ih => exact (List.Perm.cons _ ih).trans (List.Perm.swap ..)
theorem Del.sub {a : Addr} {x : O} {σ σ' : Sto} (h : Del a x σ σ') : σ'.Sublist σ := by
  induction h with
  | head => exact List.sublist_cons_self _ _
  | tail _ ih => exact .cons_cons _ ih
theorem Del.st {a : Addr} {x : O} {σ σ' : Sto} (h : Del a x σ σ') : Del a x (c.st m σ) (c.st m σ') := by
  refine .tail ?_
  induction c.F with
  | nil => exact h
  | cons p F ih => exact .tail ih

/-- list(an iterator that is at its end) -/
theorem cal_list_liter {it l : Addr} {xs : List V} (hl : (l, O.list xs) ∈ c.st m σ) {σ' : Sto} (hdel : Del it (.liter l xs.length) σ σ') (h : ∀ a, K (.ref a) ((a, .list []) :: σ')) :
    Cal prog w S0 c m σ (.abs (.type "list")) [.ref it] [] K := cal_ty fun vs hv s R Q E k => by
  obtain ⟨v, rfl, rfl⟩ := hv.one
  obtain ⟨us, n, hls, hz⟩ := list_at R hl
  have hi : (it, O.liter l xs.length) ∈ σ := hdel.perm.symm.subset (.head _)
  have hσ := hdel.sub
  have hn : it ∉ ((c.st m σ').map (·.1)) := (List.nodup_cons.mp (R.perm (hdel.st (c := c) (m := m)).perm).nodup).1
  obtain ⟨_, o, ho, hc, hd⟩ := R.objs _ (mem_st hi)
  have hit : s.heap.IsListIter it l us.toArray.size := ⟨o, ho, hc, by rw [List.size_toArray, ← hz.length]; exact hd⟩
  have hne : l ≠ it := fun e => by subst e; rw [hls] at ho; cases ho; cases hd
  refine callType_codes (Q₁ := fun obj s₁ => obj = .ref s.heap.objs.size ∧ s₁ = { s with heap := s.heap.push { cls := .type "list", data := .seq #[] } }) F.called_list (F.typeCall_list_1 _) F.entry_list_init
    (code_list_new _ ⟨rfl, rfl⟩) fun obj s₁ h₁ => ?_
  obtain ⟨rfl, rfl⟩ := h₁
  have hS : (s.heap.push { cls := .type "list", data := .seq #[] }).get? s.heap.objs.size = some { cls := .type "list", data := .seq #[] } := Heap.get?_push_size _ rfl
  have lt1 : it < s.heap.objs.size := Heap.lt_size ho
  have lt2 : l < s.heap.objs.size := Heap.lt_size hls
  refine ⟨⟨_, hS, rfl⟩, F.args_list_init_2 _ _, ?_⟩
  show wpAny _ _ (do let old ← Builtin.List.listItems (.ref s.heap.objs.size); Builtin.List.listUpdate (.ref s.heap.objs.size) (fun _ => #[]); letGo old.toList.reverse; Builtin.List.listExtendWith (.ref s.heap.objs.size) (.ref it) .none) _ _ _
  refine wpAny_bind ?_
  unfold Builtin.List.listItems
  refine wpAny_bind (wpAny_seqItems hS rfl (wpAny_pure ?_))
  show wpAny _ _ (updateSeq s.heap.objs.size (fun _ => #[]) >>= fun _ => letGo (#[] : Array Value).toList.reverse >>= fun _ => Builtin.List.listExtendWith (.ref s.heap.objs.size) (.ref it) .none) _ _ _
  refine wpAny_bind (wpAny_updateSeq hS rfl ?_)
  have hS₂ := Heap.get?_update_self (Obj.mapSeq (fun _ => (#[] : Array Value))) hS rfl
  have oth : ∀ b o, b ≠ s.heap.objs.size → s.heap.get? b = some o → ((s.heap.push { cls := .type "list", data := .seq #[] }).update s.heap.objs.size (Obj.mapSeq (fun _ => (#[] : Array Value)))).get? b = some o :=
    fun b o hb e => (Heap.get?_update_other _ _ (Ne.symm hb)).trans (Heap.get?_push_of_some _ e)
  refine wpAny_bind (wpAny_letGo ?_)
  refine extend_end (A := c.A.in1) c.hand (hit.at fun o e => oth _ o (Nat.ne_of_lt lt1) e) (hls.isList.at fun o e => oth _ o (Nat.ne_of_lt lt2) e) hne _ .none _ hS₂ (Nat.ne_of_gt lt2) fun h' tk acc' c' hk hS' hacc => ?_
  subst hacc
  refine ⟨rfl, k _ (.ref s.heap.objs.size) ((_, .list []) :: σ') _ (st_new _ ?_) rfl (h _)⟩
  have R1 : Rel S0 (c.st m σ') s := R.sub (.cons_cons _ (.append (.refl _) hσ))
  have hSi : S0.heap.get? it = .none := (R.objs _ (mem_st hi)).1
  have keep : ∀ b o, b ≠ it → s.heap.get? b = some o → h'.get? b = some o := fun b o hb e => hk b o (Nat.ne_of_lt (Heap.lt_size e)) hb (oth b o (Nat.ne_of_lt (Heap.lt_size e)) e)
  refine ⟨R1.gens, R1.os, fun b o e => keep b o (fun q => by rw [q, hSi] at e; cases e) (R1.keep b o e), ?_, fun p hp => ?_⟩
  · rw [List.map_cons, List.nodup_cons]
    refine ⟨fun hm => ?_, R1.nodup⟩
    obtain ⟨p, hp, e⟩ := List.mem_map.mp hm
    exact absurd (e ▸ R1.lt hp) (Nat.lt_irrefl _)
  · rcases List.mem_cons.mp hp with rfl | hp
    · exact ⟨R.fresh, _, hS', [], c', rfl, trivial⟩
    · obtain ⟨q, ob, hob, hor⟩ := R1.objs p hp
      exact ⟨q, ob, keep _ _ (fun e => hn (e ▸ List.mem_map_of_mem hp)) hob, hor⟩
end
end Mine
end

section
open PySem.Builtin PySem.Builtin.Re PySem.Sre
set_option maxRecDepth 100000
namespace Mine

theorem re_plain : PlainAttrs "re.Pattern" :=
  ⟨⟨"object.__getattribute__", by rw [typeLookup_type, builtinLookup_eq_fast]; kernel_rfl, by decide +kernel⟩, by rw [typeLookup_type, builtinLookup_eq_fast]; kernel_rfl⟩
theorem re_owner : Manifest.owners.lookup (String.ofList ['n', 'r', 'e', 't', 't', 'a', 'P', '.', 'e', 'r'].reverse) = some Manifest.sig_re_Pattern := by kernel_rfl
theorem re_slot : Slot "re.Pattern" "search" "re.Pattern.search" :=
  .of (owner := "re.Pattern") (n := "search") (by rw [typeLookup_type, builtinLookup_eq_fast]; kernel_rfl) (by decide +kernel) (by decide +kernel) (by decide +kernel)
    (by first | exact .inl (by decide +kernel) | exact .inr (by decide +kernel)) (by rw [isSubtype_type]; kernel_rfl)
theorem re_type : typeOf (.builtin "re.Pattern.search") = pure (.type "method_descriptor") := by show builtinType _ = _; rw [builtinType_eq_fast]; kernel_rfl
theorem re_entry : entryFor table "re.Pattern.search" = some Builtin.«re.Pattern.search» := entryFor_of_tree (by kernel_rfl)
theorem re_args (a b : Value) : argsOk "re.Pattern.search" ⟨[a, b], []⟩ := by
  unfold argsOk; rw [signature?_of (id := "re.Pattern.search") (n := ['h', 'c', 'r', 'a', 'e', 's']) (o := ['n', 'r', 'e', 't', 't', 'a', 'P', '.', 'e', 'r']) (by kernel_rfl) re_owner]; kernel_rfl
theorem re_named (x : Value) : reNamed "re.Pattern.search" "search" ["string", "pos", "endpos"] 1 [x] [] = pure [some x, .none, .none] := by kernel_rfl

/-- the set at the head of a code takes none of these -/
noncomputable def Unmet (code : Array Nat) (text : Array Nat) : Prop := ∀ c ∈ text, ∀ seen, ∃ seen', inSet code c code.size 5 true seen = .ok (false, seen')
noncomputable def Head4 (code : Array Nat) : Prop := (match ops[code.getD 0 0]? with | some .INFO => true | _ => false) = true ∧ code.getD 2 0 = 4 ∧ code.getD 3 0 = 1

theorem admitted_none (m : M) (h : Unmet m.code m.text) (hl : m.lim ≤ m.text.size) : ∀ fuel s seen, ∃ seen', M.admitted m fuel s seen = .ok (.none, seen')
  | 0, _, seen => ⟨seen, rfl⟩
  | fuel + 1, s, seen => by
    unfold M.admitted
    by_cases hs : s ≥ m.lim
    · rw [if_pos hs]; exact ⟨seen, rfl⟩
    · rw [if_neg hs]
      have hlt : s < m.text.size := by omega
      have hm : m.text.getD s 0 ∈ m.text := by
        rw [Array.getD, dif_pos hlt]; exact Array.getElem_mem ..
      obtain ⟨seen', e⟩ := h _ hm seen
      rw [e]
      exact admitted_none m h hl fuel (s + 1) seen'

theorem admitted_some {m : M} (h : Unmet m.code m.text) (hl : m.lim ≤ m.text.size) {fuel s p : Nat} {seen seen' : Sre.Seen} : M.admitted m fuel s seen ≠ .ok (some p, seen') := fun z => by
  obtain ⟨q, e⟩ := admitted_none m h hl fuel s seen
  rw [e] at z; cases z
theorem admitted_err {m : M} (h : Unmet m.code m.text) (hl : m.lim ≤ m.text.size) {fuel s : Nat} {seen : Sre.Seen} {why : String} : M.admitted m fuel s seen ≠ .error why := fun z => by
  obtain ⟨q, e⟩ := admitted_none m h hl fuel s seen
  rw [e] at z; cases z
theorem search_none {code text : Array Nat} {groups : Nat} (h4 : Head4 code) (h : Unmet code text) :
    (forSearch code text groups 0 text.size false).answer = some false ∧ (forSearch code text groups 0 text.size false).frames = [] ∧ (forSearch code text groups 0 text.size false).outcome = .none := by
  obtain ⟨a1, a2, a3⟩ := h4
  unfold forSearch
  dsimp only
  split
  · exact ⟨rfl, rfl, rfl⟩
  · unfold M.attemptFrom
    rw [if_neg]
    · split
      · rename_i heq; exact absurd heq (admitted_some h (Nat.le_refl _))
      · exact ⟨rfl, rfl, rfl⟩
      · rename_i heq; exact absurd heq (admitted_err h (Nat.le_refl _))
    · show ¬ ((!(M.hasFirstSet _)) = true)
      rw [show M.hasFirstSet _ = true from ?_]
      · decide
      · show ((match ops[code.getD 0 0]? with | some .INFO => true | _ => false) && code.getD 2 0 == 4) = true
        rw [a1, a2]; rfl

theorem run_fails {m : M} (h1 : m.answer = some false) (h2 : m.frames = []) (h3 : m.outcome = .none) : m.runFor 4 = { m with outcome := some .failed } := by
  have e : m.step = { m with outcome := some .failed } := by
    unfold M.step
    rw [h3]
    simp only [Option.isSome_none, Bool.false_eq_true, if_false]
    rw [h1, h2]
    rfl
  show (if m.outcome.isSome then m else M.runFor 3 m.step) = _
  rw [h3, if_neg (by decide), e]
  rfl

section
variable {M0 : Model} {A : Around} {E : Value → Shared → Prop} {s : Shared}
theorem rules_loop {f : Nat → PUnit → Sem (ForInStep PUnit)} {p : Nat → Bool} {t : Nat → String} (hf : ∀ i u, f i u = (if p i = true then do rule (t i); pure (.yield PUnit.unit) else pure (.yield PUnit.unit))) {Q : PUnit → Shared → Prop} (h : Q ⟨⟩ s) :
    ∀ l : List Nat, wpAny M0 A (forIn l PUnit.unit f) Q E s
  | [] => wpAny_pure h
  | i :: l => by
    rw [List.forIn_cons, hf]
    refine wpAny_bind ?_
    split
    · exact wpAny_bind (wpAny_rule (wpAny_pure (rules_loop hf h l)))
    · exact wpAny_pure (rules_loop hf h l)

theorem run_none {m : M} (h1 : m.answer = some false) (h2 : m.frames = []) (h3 : m.outcome = .none) {Q : Option M → Shared → Prop} (h : Q .none s) : wpAny M0 A (reRunToEnd m) Q E s := by
  unfold reRunToEnd
  rw [show (2 : Nat) ^ 64 = 18446744073709551615 + 1 from rfl]
  refine wpAny_bind (m := reDrive _ _) ?_
  unfold reDrive
  show wpAny M0 A (if (m.runFor 4).outcome.isSome = true then pure (m.runFor 4) else _) _ _ _
  rw [run_fails h1 h2 h3]
  refine wpAny_ite_split (fun _ => ?_) (fun hn => absurd rfl hn)
  refine wpAny_pure ?_
  refine wpAny_bind (rules_loop (p := fun i => m.seen.has i) (t := fun i => names.getD i "") (fun i u => ?_) ?_ _)
  · show (if m.seen.has i = true then _ else _) = _
    split <;> rfl
  · exact wpAny_pure h
end

structure IsRe (h : Heap) (a : Addr) (code : Array Nat) : Prop where
  ex : ∃ (x : Str) (t : Tok) (i2 i6 : Value) (v1 v3 v4 : Value) (ca : Addr) (items : Array Value) (n : Nat), h.get? a = some ⟨.type "re.Pattern", .none, .fields #[.str x t, v1, i2, v3, v4, .ref ca, i6], #[]⟩ ∧
    reRawNat i6 = 0 ∧ h.get? ca = some ⟨.type "tuple", .none, .seq items n, #[]⟩ ∧ (items.map reRawOf).map (·.toNat) = code

section
variable {prog : Program} {w : World} {S0 : Shared} {c : Cx} {m : Ms} {σ : Sto} {K : V → Sto → Prop}
theorem mth_search {a : Addr} {code : Array Nat} {K : V → List V → Sto → Prop} (ha : IsRe S0.heap a code) (h : K (.abs (.builtin "re.Pattern.search")) [.ref a] σ) : Mth prog w S0 c m σ (.ref a) "search" K :=
  Mth.of fun v hv pl s R Q E k => by
    obtain rfl : v = .ref a := hv
    obtain ⟨x, t, i2, i6, v1, v3, v4, ca, items, n, ho, h6, hc, hcode⟩ := ha.ex
    have ho' := R.keep _ _ ho
    exact getMethod_builtin ⟨_, ho', rfl⟩ re_plain re_slot re_type (fun b e => by cases e; exact ⟨_, ho', rfl⟩) (k _ (.abs (.builtin "re.Pattern.search")) [.ref a] σ s R rfl ⟨rfl, trivial⟩ h)
theorem cal_search {a : Addr} {code : Array Nat} {x : Str} (ha : IsRe S0.heap a code) (h4 : Head4 code) (hx : Unmet code x.cps) (hsz : x.length ≤ sizeLine) (h : K .none σ) : Cal prog w S0 c m σ (.abs (.builtin "re.Pattern.search")) [.ref a, .str x] [] K := by
  refine Cal.of fun fv vs hf hv s R Q E k => ?_
  obtain rfl : fv = .builtin "re.Pattern.search" := hf
  obtain ⟨v, u, rfl, rfl, t, rfl⟩ : ∃ v u, vs = [v, u] ∧ Rz (.ref a) v ∧ Rz (.str x) u := by
    cases vs with | nil => exact hv.elim | cons v vs => cases vs with | nil => exact hv.2.elim | cons u vs => cases vs with | nil => exact ⟨v, u, rfl, hv.1, hv.2.1⟩ | cons => exact hv.2.2.elim
  obtain ⟨px, pt, i2, i6, v1, v3, v4, ca, items, n, ho, h6, hc, hcode⟩ := ha.ex
  have ho' := R.keep _ _ ho
  have hc' := R.keep _ _ hc
  refine wpAny_call_entry re_slot (T := "re.Pattern") ⟨_, ho', rfl⟩ re_entry ?_ (re_args _ _)
  show wpAny _ _ (reTarget "re.Pattern.search" "search" ⟨[.ref a, .str x t], []⟩ >>= fun t => reAnswer t (Sre.forSearch t.code t.text t.groups t.pos t.lim false)) _ _ _
  refine wpAny_bind ?_
  unfold reTarget
  dsimp only
  refine wpAny_bind (wpAny_of_eq (re_named _) ?_)
  dsimp only
  refine wpAny_bind (wpAny_pure (wpAny_bind (wpAny_pure ?_)))
  refine wpAny_bind (m := fieldsOf (.ref a)) ?_
  unfold fieldsOf
  refine wpAny_bind (wpAny_load ho' (wpAny_pure ?_))
  refine wpAny_bind (m := reTextOf (.str x t)) (wpAny_of_eq (a := (x.cps, 0)) (by with_unfolding_all rfl) ?_)
  dsimp only
  have e6 : reRawNat (#[Value.str px pt, v1, i2, v3, v4, Value.ref ca, i6].getD 6 Value.none) = 0 := h6
  refine wpAny_ite_split (fun hab => absurd hab (by rw [e6]; decide)) (fun _ => ?_)
  refine wpAny_ite_split (fun hab => absurd hab (by rw [e6]; decide)) (fun _ => ?_)
  refine wpAny_bind (m := reNoCollectionInside (.str x t) 0) (wpAny_of_eq (a := ()) rfl ?_)
  refine wpAny_bind (m := reRawItems (.ref ca)) ?_
  unfold reRawItems
  refine wpAny_bind (m := seqItems? (.ref ca)) (wpAny_seqItems hc' rfl (wpAny_pure ?_))
  refine wpAny_pure ?_
  have e1 : Array.map (fun x => x.toNat) (Array.map reRawOf (Option.getD (some items) #[])) = code := hcode
  dsimp only
  have e2 : Min.min (((2 : Int) ^ (63 : Nat) - 1).toNat) x.cps.size = x.cps.size := Nat.min_eq_right (by
    have h1 : x.cps.size ≤ 16777216 := hsz
    have h2 : ((2 : Int) ^ (63 : Nat) - 1).toNat = 9223372036854775807 := by decide
    omega)
  rw [e1, show Min.min (Int.toNat 0) x.cps.size = 0 by simp, e2]
  unfold reAnswer
  obtain ⟨q1, q2, q3⟩ := search_none (groups := reRawNat (#[Value.str px pt, v1, i2, v3, v4, Value.ref ca, i6].getD 2 Value.none)) h4 hx
  refine wpAny_bind (run_none q1 q2 q3 ?_)
  exact wpAny_pure ⟨.none, rfl, k _ .none σ s R rfl h⟩
end
end Mine
end

section
set_option maxRecDepth 100000
namespace Mine

structure ClsOk (S0 : Shared) (K : Frag) (C : Addr) : Prop where
  X : K.In S0.heap
  makes : makesIn K C = true
  ga : findIn K (.ref C) "__getattribute__" = some (some (.builtin "object.__getattribute__"))
  gattr : findIn K (.ref C) "__getattr__" = some .none
  sattr : findIn K (.ref C) "__setattr__" = some (some (.builtin "object.__setattr__"))
  over : plainOver K C = true
  hasd : hasDictIn K C = true

section
variable {prog : Program} {w : World} {S0 : Shared} {c : Cx} {m : Ms} {σ : Sto} {K : V → Sto → Prop}

theorem inst_at {τ : Sto} {s : Shared} {x C d : Addr} {od : O} (R : Rel S0 τ s) (hx : (x, O.inst C d) ∈ τ) (hd : (d, od) ∈ τ) : ∃ o, s.heap.get? d = some o ∧ OR od o ∧ InstAt s.heap x (instObj C d) C (some o) := by
  obtain ⟨_, ox, hox, rfl⟩ := R.objs _ hx
  obtain ⟨_, o, ho, hor⟩ := R.objs _ hd
  exact ⟨o, ho, hor, hox, rfl, rfl, ho⟩

/-- x.attr, an attribute of the object's own -/
theorem ev_attr {Kf : Frag} {n attr : Str} {np pos : Pos} (h : Ev prog w S0 c (.Name n np) m σ fun x σ1 => ∃ a C d b, x = .ref a ∧ (a, O.inst C d) ∈ c.st m σ1 ∧ (d, O.idict attr (.ref b)) ∈ c.st m σ1 ∧ ClsOk S0 Kf C ∧ findIn Kf (.ref C) attr = some .none ∧ K (.ref b) σ1) :
    Ev prog w S0 c (.Attribute (.Name n np) attr pos) m σ K :=
  Op.of fun s R Q E k => Attribute_name (Op.get h s R _ E fun v x σ1 s1 R1 hx ⟨a, C, d, b, e, ha, hd, ck, hf, h1⟩ => by
    subst e
    obtain rfl : v = .ref a := hx
    obtain ⟨o, ho, ⟨t, u, n, hsh, rfl, rfl⟩, I⟩ := inst_at R1 ha hd
    refine get_value (ck.X.keeps R1.keep) I ck.ga (findObj_own ck.hasd hf rfl (v := .ref b) ?_) rfl (k _ (.ref b) σ1 _ (R1.toks _) rfl h1)
    unfold lookIn
    simp [Value.isStr])

/-- a method of the object's class -/
theorem mth_own {Kf : Frag} {name : Str} {x C d f : Addr} {attr : Str} {y : V} {K : V → List V → Sto → Prop} (hx : (x, O.inst C d) ∈ c.st m σ) (hd : (d, O.idict attr y) ∈ c.st m σ) (ck : ClsOk S0 Kf C)
    (hf : findIn Kf (.ref C) name = some (some (.ref f))) (ht : typeIn Kf (.ref f) = some (.type "function")) (hn : (attr == name) = false) (h : K (.ref f) [.ref x] σ) : Mth prog w S0 c m σ (.ref x) name K :=
  Mth.of fun v hv pl s R Q E k => by
    obtain rfl : v = .ref x := hv
    obtain ⟨o, ho, ⟨t, u, n, hsh, rfl, hz⟩, I⟩ := inst_at R hx hd
    refine method_fn (ck.X.keeps R.keep) I ck.ga ck.gattr hf ht ?_ (k _ (.ref f) [.ref x] σ s R rfl ⟨rfl, trivial⟩ h)
    unfold shadowIn lookIn
    simp [Value.isStr, hn, DictEntry.refKey]

theorem Upd.keys {a : Addr} {x y : O} {σ σ' : Sto} (h : Upd a x y σ σ') : σ'.map (·.1) = σ.map (·.1) := by
  obtain ⟨l1, l2, rfl, rfl⟩ := h.split; simp
theorem Upd.cases' {a : Addr} {x y : O} {σ σ' : Sto} (h : Upd a x y σ σ') (nd : (σ.map (·.1)).Nodup) : ∀ p ∈ σ', p = (a, y) ∨ (p ∈ σ ∧ p.1 ≠ a) := by
  obtain ⟨l1, l2, rfl, rfl⟩ := h.split
  rw [List.map_append, List.map_cons, List.nodup_append] at nd
  obtain ⟨n1, n2, n3⟩ := nd
  rw [List.nodup_cons] at n2
  intro p hp
  rcases List.mem_append.mp hp with hp | hp
  · exact .inr ⟨List.mem_append_left _ hp, n3 p.1 (List.mem_map_of_mem hp) a (.head _)⟩
  · rcases List.mem_cons.mp hp with rfl | hp
    · exact .inl rfl
    · exact .inr ⟨List.mem_append_right _ (.tail _ hp), fun q => n2.1 (q ▸ (List.mem_map_of_mem hp : p.1 ∈ l2.map (·.1)))⟩

noncomputable def others (h : Heap) (L d : Addr) : List (Addr × Obj) := (List.range h.objs.size).filterMap fun b => if b = L ∨ b = d then .none else (h.get? b).map fun o => (b, o)
theorem mem_others {h : Heap} {L d b : Addr} {o : Obj} (e : h.get? b = some o) (h1 : b ≠ L) (h2 : b ≠ d) : (b, o) ∈ others h L d := by
  refine List.mem_filterMap.mpr ⟨b, List.mem_range.mpr (Heap.lt_size e), ?_⟩
  rw [if_neg (by simp [h1, h2]), e]; rfl
theorem of_others {h : Heap} {L d : Addr} {p : Addr × Obj} (hp : p ∈ others h L d) : h.get? p.1 = some p.2 ∧ p.1 ≠ L ∧ p.1 ≠ d := by
  obtain ⟨b, _, e⟩ := List.mem_filterMap.mp hp
  by_cases hb : b = L ∨ b = d
  · rw [if_pos hb] at e; cases e
  · rw [if_neg hb] at e
    obtain ⟨o, ho, rfl⟩ := Option.map_eq_some_iff.mp e
    exact ⟨ho, fun q => hb (.inl q), fun q => hb (.inr q)⟩

theorem set_attr {Kf : Frag} {x C d : Addr} {name : Str} {y : V} {v : Value} {σ' : Sto} {s : Shared} (R : Rel S0 (c.st m σ) s) (hx : (x, O.inst C d) ∈ c.st m σ) (U : Upd d .edict (.idict name y) σ σ') (hz : Rz y v) (ck : ClsOk S0 Kf C)
    (ht : takerIn Kf C name = some .none) {Q : Unit → Shared → Prop} {E : Value → Shared → Prop} (k : ∀ s', Rel S0 (c.st m σ') s' → Q () s') : wpAny (model prog w) c.A (setAttr (.ref x) name v) Q E s := by
  have UU : Upd d .edict (.idict name y) (c.st m σ) (c.st m σ') := .tail (U.app _)
  obtain ⟨o, ho, rfl, I⟩ := inst_at R hx UU.mem
  have X := ck.X.keeps R.keep
  have hdL : d ≠ c.env.locals := by
    have nd := R.nodup
    rw [show c.st m σ = (c.env.locals, O.frame c.names m) :: (c.F ++ σ) from rfl, List.map_cons, List.nodup_cons] at nd
    intro e
    exact nd.1 (e ▸ (List.mem_map_of_mem (List.mem_append_right _ U.mem) : d ∈ (c.F ++ σ).map (·.1)))
  obtain ⟨mm, hns, hm⟩ := frame_ns R
  refine set_plain X I ck.sattr ?_
  refine osa_dict (s := { s with toks := s.toks + 1 }) (h₀ := { s.heap with objs := #[] }) (L := c.env.locals) (m := mm) (pre := []) (post := others s.heap c.env.locals d) (od := ⟨.type "dict", .none, .dict #[] 0, #[]⟩)
    (od' := ⟨.type "dict", .none, .dict #[⟨PyData.keyHash w.params name, .str name (s.toks + 1), v⟩] 1, #[]⟩) (es := [⟨PyData.keyHash w.params name, .str name (s.toks + 1), v⟩]) (n := 1)
    ⟨hns, fun b o e => by simp [Heap.get?] at e, Nat.zero_le _⟩ ?_ X I rfl ck.over ht ck.hasd rfl (fun p hp => nomatch hp) (fun p hp => (of_others hp).2.2) rfl rfl (by simp) fun h' F' N' => ?_
  · intro p hp
    rcases List.mem_cons.mp hp with rfl | hp
    · exact ⟨ho, hdL, by simp [Heap.get?]⟩
    · exact ⟨(of_others hp).1, (of_others hp).2.1, by simp [Heap.get?]⟩
  · refine k _ ?_
    have same : ∀ b o, s.heap.get? b = some o → b ≠ c.env.locals → b ≠ d → h'.get? b = some o := fun b o e h1 h2 => (N' (b, o) (.tail _ (mem_others e h1 h2))).1
    refine ⟨R.gens, R.os, fun b o e => same b o (R.keep b o e) (fun q => ?_) (fun q => ?_), ?_, fun p hp => ?_⟩
    · have := (R.objs _ (.head _)).1
      rw [show ((c.env.locals, O.frame c.names m) : Addr × O).1 = c.env.locals from rfl, ← q, e] at this; cases this
    · have := (R.objs _ UU.mem).1
      rw [show ((d, O.edict) : Addr × O).1 = d from rfl, ← q, e] at this; cases this
    · rw [UU.keys]; exact R.nodup
    · rcases UU.cases' R.nodup p hp with rfl | ⟨hp, hne⟩
      · exact ⟨(R.objs _ UU.mem).1, _, (N' _ (.head _)).1, _, _, _, _, rfl, hz⟩
      · rcases List.mem_cons.mp hp with rfl | hp'
        · obtain ⟨o1, es, ep, g1, g2, g3, g4⟩ := F'.ns
          exact ⟨(R.objs _ (.head _)).1, o1, g1, es, ep, g2, g3, fun i z hi => by rw [g4 z]; exact hm i z hi⟩
        · obtain ⟨q, ob, hob, hor⟩ := R.objs p hp
          refine ⟨q, ob, same _ _ hob (fun e => ?_) hne, hor⟩
          have nd := R.nodup
          rw [show c.st m σ = (c.env.locals, O.frame c.names m) :: (c.F ++ σ) from rfl, List.map_cons, List.nodup_cons] at nd
          exact nd.1 (e ▸ (List.mem_map_of_mem hp' : p.1 ∈ (c.F ++ σ).map (·.1)))

/-- self.attr = e, the first -/
theorem ex_setattr {Kf : Frag} {o e : Expr} {attr : Str} {p pos : Pos} {rest : List Stmt} {K : Fl → Ms → Sto → Prop}
    (h : Ev prog w S0 c e m σ fun y σ1 => Ev prog w S0 c o m σ1 fun z σ2 => ∃ x C d σ3, z = .ref x ∧ (x, O.inst C d) ∈ c.st m σ2 ∧ Upd d .edict (.idict attr y) σ2 σ3 ∧ ClsOk S0 Kf C ∧ takerIn Kf C attr = some .none ∧ Ex prog w S0 c rest m σ3 K)
    (hs : swapsWith e (some (.Attribute o attr p)) pos.line c.env = pure false := by rfl) : Ex prog w S0 c (.Assign [.Attribute o attr p] e pos :: rest) m σ K :=
  Ex.of fun s R Q E k => wpAny_execs_cons (plainObj_wpAny_Assign_Attribute (Op.get h s R _ E fun v y σ1 s1 R1 hy h1 => Op.get h1 s1 R1 _ E fun u z σ2 s2 R2 hz h2 => by
    obtain ⟨x, C, d, σ3, rfl, hx, hu, ck, ht, hk⟩ := h2
    obtain rfl : u = .ref x := hz
    exact set_attr R2 hx hu hy ck ht fun s' R' => Ex.get hk s' R' Q E k) hs)
end
end Mine
end

section
set_option maxRecDepth 100000
namespace Mine
section
variable {prog : Program} {w : World} {S0 : Shared} {c : Cx} {m : Ms} {σ : Sto} {K : V → Sto → Prop}

theorem kpr_cls {Kf : Frag} {C : Addr} (ck : ClsOk S0 Kf C) : Kpr prog w S0 (.ref C) := by
  rintro _ rfl
  obtain ⟨⟨oc, od, cd, sl, hC, e1, e2, e4⟩, made, base, self, top, call, typ⟩ := makes_of (M := model prog w) ck.X ck.makes
  refine ⟨.machine, .inr (.inl rfl), fun A Q E s k q => ?_⟩
  unfold keeperOf
  refine wpAny_bind (wpAny_load (k _ _ hC) ?_)
  show wpAny _ _ (specialOf (.ref C) "__call__" >>= _) _ _ _
  exact wpAny_bind (call A _ E s k (wpAny_pure q))

/-- the context below type.__call__ -/
noncomputable def Cx.under (c : Cx) (code : Code) : Cx := { c with A := c.A.under code }

/-- a call by the code's own way -/
noncomputable def CCal (prog : Program) (w : World) (S0 : Shared) (c : Cx) (m : Ms) (σ : Sto) (f : V) (xs : List V) (K : V → Sto → Prop) : Prop :=
  ∀ fv vs, Rz f fv → RzL xs vs → ∀ s, Rel S0 (c.st m σ) s → ∀ Rr : Result → Shared → Prop, (∀ v V σ' s', Rel S0 (c.st m σ') s' → Rz V v → K V σ' → Rr (.ok (.ret v)) s') → codeAny (model prog w) c.A (.call fv ⟨vs, []⟩) Rr s
theorem CCal.cal {f : V} {xs : List V} (h : CCal prog w S0 c m σ f xs K) : Cal prog w S0 c m σ f xs [] K := Cal.of fun fv vs hf hv s R Q E k => wpAny_call (h fv vs hf hv s R _ k)

/-- C() -/
theorem cal_make {Kf : Frag} {C fI : Addr} (ck : ClsOk S0 Kf C) (hi : findIn Kf (.ref C) "__init__" = some (some (.ref fI))) (hf : typeIn Kf (.ref fI) = some (.type "function"))
    (h : ∀ x d, CCal prog w S0 (c.under (.builtin "type.__call__" ⟨[.ref C], []⟩)) m ((x, .inst C d) :: (d, .edict) :: σ) (.ref fI) [.ref x] fun v σ' => v = .none ∧ K (.ref x) σ') : Cal prog w S0 c m σ (.ref C) [] [] K := by
  refine Cal.of fun fv vs hfv hv s R Q E k => ?_
  obtain rfl : fv = .ref C := hfv
  cases vs with
  | cons => exact hv.elim
  | nil =>
    refine wpAny_call ?_
    have X := ck.X.keeps R.keep
    obtain ⟨hh, g, d, t, os⟩ := s
    refine make_core (makes_of X ck.makes) (looks_findIn X hi) (fun self => bind_fn X self hf) (.inl rfl) ?_
    have R1 := R.new (x := .edict) (o := emptyDict) rfl rfl t
    have R2 := R1.new (x := .inst C hh.objs.size) (o := instObj C hh.objs.size) rfl rfl t
    have es : (hh.push emptyDict).objs.size = hh.objs.size + 1 := Heap.size_push ..
    have R3 : Rel S0 ((c.under (.builtin "type.__call__" ⟨[.ref C], []⟩)).st m ((hh.objs.size + 1, .inst C hh.objs.size) :: (hh.objs.size, .edict) :: σ)) ⟨(hh.push emptyDict).push (instObj C hh.objs.size), g, d, t, os⟩ := by
      have := R2
      simp only [es] at this
      exact this
    refine h _ _ (.ref fI) [.ref (hh.objs.size + 1)] rfl ⟨rfl, trivial⟩ _ R3 _ fun v V σ' s' R' hz ⟨e, hK⟩ => ?_
    subst e
    exact ⟨hz, k _ (.ref (hh.objs.size + 1)) σ' s' R' rfl hK⟩

/- a set of ints -/
noncomputable def setView (o : Obj) : Option (List Int) := match o with
  | ⟨.type T, .none, .set es _ t, sl⟩ => if T == "set" && sl.isEmpty && Nat.blt es.size scanBound && t.fits es.size && es.toList.all (fun e => match e.2 with | .int i _ => e.1 == hashInt i | _ => false) then some (es.toList.filterMap fun e => match e.2 with | .int i _ => some i | _ => .none) else .none
  | _ => .none
theorem setOf_view {h : Heap} {a : Addr} {o : Obj} {ns : List Int} (ho : h.get? a = some o) (hv : setView o = some ns) : h.SetOf (intKind prog w) a (fun i => ns.contains i) ns.length := by
  unfold setView at hv
  split at hv
  · rename_i T es ep t sl
    split at hv
    · rename_i hc
      simp only [Bool.and_eq_true, beq_iff_eq, Array.isEmpty_iff, Nat.blt_eq] at hc
      obtain ⟨⟨⟨⟨rfl, rfl⟩, hb⟩, hf⟩, hall⟩ := hc
      cases hv
      rw [List.all_eq_true] at hall
      have shape : ∀ e ∈ es.toList, ∃ i tk, e.2 = .int i tk ∧ e.1 = hashInt i := fun e he => by
        have := hall e he
        split at this
        · rename_i i tk q; exact ⟨i, tk, q, eq_of_beq this⟩
        · cases this
      have len : (es.toList.filterMap fun e => match e.2 with | .int i _ => some i | _ => (.none : Option Int)).length = es.size := by
        rw [← Array.length_toList]
        generalize es.toList = l at shape
        induction l with
        | nil => rfl
        | cons e l ih =>
          obtain ⟨i, tk, q, _⟩ := shape e (.head _)
          rw [List.filterMap_cons, q]
          simp [ih fun x hx => shape x (.tail _ hx)]
      refine ⟨_, es, ep, t, ho, ⟨rfl, rfl, rfl⟩, rfl, fun e he => ?_, fun k => ?_, hb, hf, len.symm⟩
      · obtain ⟨i, tk, q, hh⟩ := shape e he
        refine ⟨⟨i, ?_, hh⟩, ?_⟩
        · rw [q]; simp [intKind, Value.isInt]
        · rw [q]; rfl
      · rw [List.contains_iff_mem, List.mem_filterMap]
        constructor
        · rintro ⟨e, he, hk⟩
          obtain ⟨i, tk, q, _⟩ := shape e he
          rw [q] at hk
          cases hk
          exact ⟨e, he, by rw [q]; simp [intKind, Value.isInt]⟩
        · rintro ⟨e, he, hk⟩
          obtain ⟨i, tk, q, _⟩ := shape e he
          refine ⟨e, he, ?_⟩
          rw [q] at hk ⊢
          simp [intKind, Value.isInt] at hk
          simp [hk]
    · cases hv
  · cases hv
theorem cmp_in_set {a : Addr} {o : Obj} {ns : List Int} {i : Int} (ho : S0.heap.get? a = some o) (hv : setView o = some ns) (h : K (.bool (ns.contains i)) σ) : Cmp prog w S0 c m σ .In (.int i) (.ref a) K := by
  rintro _ _ ⟨t, rfl⟩ rfl
  exact Op.of fun s R Q E k => wpAny_inSet_of (knd := intKind prog w) (k := i) (by simp [intKind, Value.isInt]) rfl (setOf_view (R.keep _ _ ho) hv) (k _ (.bool _) σ _ (R.toks _) rfl h)

/- the items of a dict that is empty -/
end
end Mine
end

section
set_option maxRecDepth 100000
namespace Mine
theorem entry_itemiter : entryFor table "dict_itemiterator.__iter__" = some Builtin.«dict_keyiterator.__iter__» :=
  entryFor_alias (id' := "dict_keyiterator.__iter__") (by kernel_rfl) rfl (by decide +kernel) (by kernel_rfl)
section
variable {prog : Program} {w : World} {S0 : Shared} {c : Cx} {m : Ms} {σ : Sto} {K : V → Sto → Prop}

noncomputable def itemsObj (d : Addr) : Obj := ⟨.type "dict_items", .none, .fields #[.ref d], #[]⟩
noncomputable def itemIter (d : Addr) : Obj := ⟨.type "dict_itemiterator", .none, .fields #[.none, .bool false, .ref d, .int 0 0, .int 0 0, .int 0 0, .none, .none], #[]⟩
/- what a def's arguments become -/
theorem binds_of {fd : FuncData} {xs : List V} {kws : List (Str × V)} {P : List (Str × V) → Sto → Prop}
    (h : ∀ vs ks, RzL xs vs → RzL (kws.map (·.2)) ks → ∃ bs bxs, bindArgs fd ⟨vs, (kws.map (·.1)).zip ks⟩ = pure bs ∧ bxs.map (·.1) = bs.map (·.1) ∧ RzL (bxs.map (·.2)) (bs.map (·.2)) ∧ P bxs σ) : Binds prog w S0 c m σ fd xs kws P := fun vs ks hv hk => by
  obtain ⟨bs, bxs, e, h1, h2, h3⟩ := h vs ks hv hk
  rw [e]
  exact Tr.pure ⟨bxs, σ, h1, h2, Imp.rfl, h3⟩
/-- with defaults, out of a tuple of the top -/
theorem binds_dflt {fd : FuncData} {xs : List V} {kws : List (Str × V)} {P : List (Str × V) → Sto → Prop} {T : Addr} {o : Obj} {items : Array Value} {n : Nat} (hT : S0.heap.get? T = some o) (hd : o.data = .seq items n) (hf : fd.defaults = .ref T)
    (h : ∀ vs ks, RzL xs vs → RzL (kws.map (·.2)) ks → ∃ bs bxs k, bindArgs fd ⟨vs, (kws.map (·.1)).zip ks⟩ = seqItems? fd.defaults >>= k ∧ k (some items) = pure bs ∧ bxs.map (·.1) = bs.map (·.1) ∧ RzL (bxs.map (·.2)) (bs.map (·.2)) ∧ P bxs σ) : Binds prog w S0 c m σ fd xs kws P := fun vs ks hv hk => by
  obtain ⟨bs, bxs, k, e, ek, h1, h2, h3⟩ := h vs ks hv hk
  rw [e, hf]
  intro s R Q E kk
  refine wpAny_bind (wpAny_seqItems (R.keep _ _ hT) hd ?_)
  rw [ek]
  exact wpAny_pure (kk _ _ s R ⟨bxs, σ, h1, h2, Imp.rfl, h3⟩)
/- a, b = (a tuple), the stores swapped -/
theorem ex_swap {ts : List Expr} {k : Nat} {tp pos : Pos} {e : Expr} {n1 n2 : Str} {rest : List Stmt} {K : Fl → Ms → Sto → Prop}
    (h : Ev prog w S0 c e m σ fun x σ1 => ∃ a y1 y2, x = .ref a ∧ (a, O.tuple [y1, y2]) ∈ c.st m σ1 ∧ Sto1 prog w S0 c m σ1 n2 y2 fun m1 σ2 => Sto1 prog w S0 c m1 σ2 n1 y1 fun m2 σ3 => Ex prog w S0 c rest m2 σ3 K)
    (hs : swapsWithSole [.Tuple ts k tp] e pos.line c.env = pure false := by rfl) (hw : swappedStores [.Tuple ts k tp] e c.env = pure (some [n1, n2]) := by rfl) : Ex prog w S0 c (.Assign [.Tuple ts k tp] e pos :: rest) m σ K :=
  Ex.of fun s R Q E kk => wpAny_execs_cons (Assign_Tuple_swapped (names := [n1, n2]) (Op.get h s R _ E fun v x σ1 s1 R1 hx ⟨a, y1, y2, e1, ha, h1⟩ => by
    subst e1
    obtain rfl : v = .ref a := hx
    obtain ⟨vs, nn, ht, hz⟩ := tuple_at R1 ha
    have hl : vs.length = 2 := hz.len
    have : ([n1, n2] : List Str).length = vs.toArray.size := by simp [hl]
    rw [this]
    refine unpackItems_tuple c.hand ⟨_, ht, rfl, nn, rfl⟩ fun h' hx => ?_
    have R2 : Rel S0 (c.st m σ1) { s1 with heap := h' } := R1.grow (h' := h') (fun b o e => hx b o (Nat.ne_of_lt (Heap.lt_size e)) e) s1.toks
    obtain ⟨v1, v2, rfl, z1, z2⟩ := hz.two
    show wpAny _ _ (holding [v1] (bindName c.env n2 v2) >>= fun _ => (holding [] (bindName c.env n1 v1) >>= fun _ => pure ())) _ _ _
    refine wpAny_bind (wpAny_holding (wpAny_bindName (h1.get v2 z2 _ R2 _ E fun m1 σ2 s2 R2 h2 => wpAny_bind (wpAny_holding (wpAny_bindName (h2.get v1 z1 s2 R2 _ E fun m2 σ3 s3 R3 h3 => wpAny_pure (Ex.get h3 s3 R3 Q E kk)))))))) hs hw)
end
end Mine
end

section
set_option maxRecDepth 100000
namespace Mine
section
variable {prog : Program} {w : World} {S0 : Shared} {c : Cx} {m : Ms} {σ : Sto}

theorem draw_itr {it : Addr} {o : Nat → O} {xs : List V} {P : Sto → Prop} {A : Around} (hh : A.handled = .none) (I : Itr prog w S0 it o xs P) : ∀ (n i : Nat) (ys : List V) (τ : Sto) (s : Shared), Rel S0 ((it, o i) :: τ) s → P τ → i + n ≤ xs.length →
    ∀ (Q : List Value → Shared → Prop) (E : Value → Shared → Prop), (∀ vs s', Rel S0 ((it, o (i + n)) :: τ) s' → RzL ((xs.drop i).take n) vs → Q vs s') → wpAny (model prog w) A (draw (.ref it) n) Q E s
  | 0, i, ys, τ, s, R, hP, hl, Q, E, k => by
    show wpAny _ _ (pure []) Q E s
    exact wpAny_pure (k [] s R (by rw [List.take_zero]; trivial))
  | n + 1, i, ys, τ, s, R, hP, hl, Q, E, k => by
    have hlt : i < xs.length := by omega
    show wpAny _ _ (pyNext (.ref it) >>= _) Q E s
    refine wpAny_bind (I.next hh R hP (List.getElem?_eq_getElem hlt) _ _ fun v s1 R1 hv => ?_)
    refine wpAny_bind (wpAny_holding (draw_itr hh I n (i + 1) ys τ s1 R1 hP (by omega) _ _ fun vs s2 R2 hvs => wpAny_pure (k (v :: vs) s2 ?_ ?_)))
    · rw [show i + (n + 1) = i + 1 + n by omega]; exact R2
    · rw [List.drop_eq_getElem_cons hlt, List.take_succ_cons]; exact ⟨hv, hvs⟩

/-- a, b, .. = (a list) -/
theorem unpack_list {a : Addr} {xs : List V} {s : Shared} (R : Rel S0 (c.st m σ) s) (ha : (a, O.list xs) ∈ c.st m σ) {Q : List Value → Shared → Prop} {E : Value → Shared → Prop}
    (k : ∀ vs s', Rel S0 (c.st m σ) s' → RzL xs vs → Q vs s') : wpAny (model prog w) c.A (unpackItems (.ref a) xs.length .none) Q E s := by
  obtain ⟨us, n, hl, hz⟩ := list_at R ha
  unfold unpackItems
  refine wpAny_bind ?_
  unfold notIterableAtAll
  refine wpAny_bind (wpAny_specialOf hl.isList.typeIs slot_list_iter.lookup ?_)
  refine wpAny_pure ?_
  simp only [Bool.false_eq_true, if_false]
  refine wpAny_bind (wpAny_holding (itb_list (prog := prog) (w := w) (S0 := S0) c.hand R ha rfl _ _ fun it o s1 I R1 => ?_))
  refine wpAny_bind (wpAny_holding (draw_itr c.hand I xs.length 0 [] _ s1 R1 ha (by omega) _ _ fun vs s2 R2 hvs => ?_))
  rw [List.drop_zero, List.take_length] at hvs
  rw [if_neg (by rw [hvs.len]; omega)]
  refine wpAny_bind (wpAny_holding (I.done c.hand R2 ha (by rw [Nat.zero_add]; exact List.getElem?_eq_none (Nat.le_refl _)) _ _ fun s3 R3 => ?_))
  simp only [Option.isSome_none, Bool.false_eq_true, if_false]
  exact wpAny_pure (k vs s3 R3 hvs)
theorem findIdx_plain {env : Env} : ∀ ts : List Expr, (ts.map fun t => (false, assign t env)).findIdx? (·.1) = .none
  | [] => rfl
  | t :: ts => by rw [List.map_cons, List.findIdx?_cons, findIdx_plain ts]; rfl
theorem asg_ltuple {ts : List Expr} {n : Nat} {p : Pos} {a : Addr} {xs : List V} {K : Ms → Sto → Prop} (ha : (a, O.list xs) ∈ c.st m σ) (hl : ts.length = xs.length)
    (h : AsgL prog w S0 c ts xs m σ K) (he : assignEach ts c.env = ts.map fun t => (false, assign t c.env) := by rfl) : Asg prog w S0 c (.Tuple ts n p) (.ref a) m σ K :=
  Asg.of fun v hv s R Q E k => by
    obtain rfl : v = .ref a := hv
    rw [arm_assign_Tuple, he]
    refine wpAny_bind (wpAny_standAt ?_)
    unfold unpack
    rw [findIdx_plain, List.length_map, hl]
    refine wpAny_bind (wpAny_holding (unpack_list R ha fun vs s' R' hz => ?_))
    rw [List.map_map]
    exact h.get vs hz s' R' Q E k
/-- the statement -/
theorem ex_asgt {ts : List Expr} {k : Nat} {tp pos : Pos} {e : Expr} {rest : List Stmt} {K : Fl → Ms → Sto → Prop}
    (h : Ev prog w S0 c e m σ fun x σ1 => Asg prog w S0 c (.Tuple ts k tp) x m σ1 fun m' σ2 => Ex prog w S0 c rest m' σ2 K)
    (hs : swapsWithSole [.Tuple ts k tp] e pos.line c.env = pure false := by rfl) (hw : swappedStores [.Tuple ts k tp] e c.env = pure .none := by rfl) : Ex prog w S0 c (.Assign [.Tuple ts k tp] e pos :: rest) m σ K :=
  Ex.of fun s R Q E kk => wpAny_execs_cons (Assign_Tuple (Op.get h s R _ E fun v x σ1 s1 R1 hx h1 => h1.get v hx s1 R1 _ E fun m' σ2 s2 R2 h2 => Ex.get h2 s2 R2 Q E kk) hs hw)
end
end Mine
end

section
open PySem.Builtin PySem.Builtin.Str
set_option maxRecDepth 100000
namespace Mine
/-- a text by its signs -/
noncomputable def tx (l : List Nat) : PySem.Str := ⟨l.toArray⟩
theorem one_tx (n : Nat) : one n = tx [n] := rfl
theorem tx_cps (l : List Nat) : (tx l).cps.toList = l := rfl
theorem len_tx (l : List Nat) : (tx l).length = l.length := by simp [tx, PySem.Str.length]
theorem tx_app (a b : List Nat) : tx a ++ tx b = tx (a ++ b) := by
  show (⟨(tx a).cps ++ (tx b).cps⟩ : PySem.Str) = _
  simp [tx]
theorem tx_inj {a b : List Nat} : tx a = tx b ↔ a = b := ⟨fun h => by have := congrArg (fun x => x.cps.toList) h; simpa [tx] using this, fun h => h ▸ rfl⟩
theorem tx_beq (a b : List Nat) : (tx a == tx b) = (a == b) := by
  rw [Bool.eq_iff_iff, beq_iff_eq, beq_iff_eq]; exact tx_inj
theorem tx_bne (a b : List Nat) : (tx a != tx b) = (a != b) := by unfold bne; rw [tx_beq]
theorem signs_tx (l : List Nat) : signs (tx l) = l.map fun c => V.str (one c) := rfl
theorem foldl_cat (ls : List (List Nat)) : ∀ a : Array Nat, (ls.map tx).foldl (fun acc p => acc ++ (PySem.Str.ofString "").cps ++ p.cps) a = a ++ ls.flatten.toArray := by
  induction ls with
  | nil => intro a; simp
  | cons l ls ih =>
    intro a
    rw [List.map_cons, List.foldl_cons, ih]
    have e : (PySem.Str.ofString "").cps = #[] := by rfl
    rw [e]
    simp [tx]
theorem join_tx (ls : List (List Nat)) : Txt.join (PySem.Str.ofString "") (ls.map tx) = tx ls.flatten := by
  unfold Txt.join glued
  cases ls with
  | nil => rfl
  | cons l ls =>
    show (⟨(ls.map tx).foldl _ (tx l).cps⟩ : PySem.Str) = _
    rw [foldl_cat]
    simp [tx]
theorem join_one' (sep x : PySem.Str) : Txt.join sep [x] = x := rfl

theorem pick_range {α : Type} (l : List α) (a n : Nat) : ((List.range n).map fun k => a + k).filterMap (fun i => l[i]?) = (l.drop a).take n := by
  induction n generalizing a with
  | zero => rfl
  | succ n ih =>
    rw [List.range_succ_eq_map, List.map_cons, List.map_map, List.filterMap_cons]
    have e : ((List.range n).map ((fun k => a + k) ∘ Nat.succ)) = (List.range n).map fun k => (a + 1) + k := by
      apply List.map_congr_left; intro k _; simp; omega
    rw [e, ih (a + 1)]
    cases h : l[a]? with
    | none =>
      have hl : l.length ≤ a := by simpa using h
      simp [h, List.drop_eq_nil_of_le hl, List.drop_eq_nil_of_le (Nat.le_succ_of_le hl)]
    | some x =>
      obtain ⟨hlt, ex⟩ := List.getElem?_eq_some_iff.mp h
      simp [h, List.drop_eq_getElem_cons hlt, ex]
theorem slice_idx (lo hi : Option Int) (n : Nat) : strSliceIndices lo hi 1 n = (List.range (hi.elim n (clipAt n) - lo.elim 0 (clipAt n))).map fun k => lo.elim 0 (clipAt n) + k := by
  unfold strSliceIndices
  have clip : ∀ v : Option Int, ∀ d : Nat, d ≤ n → (match v with | .none => (d : Int) | some i => if (1 : Int) > 0 then max 0 (min (if i < 0 then i + n else i) n) else max (-1) (min (if i < 0 then i + n else i) (n - 1))) = ((v.elim d (clipAt n) : Nat) : Int) := fun v d hd => by
    cases v with
    | none => rfl
    | some i => simp only [Option.elim_some]; rw [clipAt_cast]; rfl
  have e1 := clip lo 0 (Nat.zero_le _)
  have e2 := clip hi n (Nat.le_refl _)
  simp only [show (1 : Int) > 0 from by decide, if_true] at e1 e2 ⊢
  have key : ∀ a b : Nat, sliceRange (a : Int) (b : Int) 1 = (List.range (b - a)).map fun k => a + k := fun a b => by
    unfold sliceRange
    simp only [show (1 : Int) > 0 from by decide, if_true, Int.ediv_one]
    by_cases h : (a : Int) < b
    · rw [if_pos h, show ((b : Int) - a + 1 - 1).toNat = b - a by omega]
      apply List.map_congr_left; intro k _; omega
    · rw [if_neg h, show b - a = 0 by omega]; rfl
  rw [← key]
  congr 1
theorem slice_tx (l : List Nat) (lo hi : Option Int) : Txt.slice (tx l) lo hi = tx (cut l lo hi) := by
  unfold Txt.slice
  split
  · rename_i h
    have hl : (strSliceIndices lo hi 1 l.length).length = l.length := by simpa [len_tx] using h
    rw [slice_idx, List.length_map, List.length_range] at hl
    have h1 : hi.elim l.length (clipAt l.length) ≤ l.length := by
      cases hi with
      | none => exact Nat.le_refl _
      | some i => simp only [Option.elim_some]; have := clipAt_cast l.length i; omega
    rw [tx_inj]
    unfold cut
    have a0 : lo.elim 0 (clipAt l.length) = 0 ∨ l = [] := by
      rcases Nat.eq_zero_or_pos l.length with h0 | h0
      · exact .inr (List.length_eq_zero_iff.mp h0)
      · exact .inl (by omega)
    rcases a0 with a0 | a0
    · rw [a0] at hl ⊢; rw [List.drop_zero, hl, List.take_length]
    · rw [a0]; simp
  · rw [len_tx, slice_idx]
    unfold cut
    rw [← pick_range]
    simp [tx]
theorem charAt_tx {l : List Nat} {i : Int} {n : Nat} (h0 : -(l.length : Int) ≤ i) (h : l[ix l.length i]? = some n) : Txt.charAt (tx l) i = some n := by
  obtain ⟨hlt, _⟩ := List.getElem?_eq_some_iff.mp h
  unfold ix at h hlt
  unfold Txt.charAt seqIndex?
  rw [len_tx]
  have h1 : (0 ≤ (if i < 0 then i + l.length else i) ∧ (if i < 0 then i + l.length else i) < l.length) := by
    split at hlt <;> (rename_i hi; simp only [hi, if_true, if_false]; omega)
  simp only [h1, decide_true, Bool.and_self, if_true, Option.bind_some]
  simpa [tx] using h
theorem lower_tx {l : List Nat} (h : ∀ c ∈ l, c < 128) : Txt.lower (tx l) = tx (l.map lo1) := by
  rw [lower_ascii (x := tx l) (fun c hc => h c hc)]
  simp [tx]

theorem flat_ones {α : Type} (l : List α) : (l.map fun f => [f]).flatten = l := by
  induction l with
  | nil => rfl
  | cons a l ih => rw [List.map_cons, List.flatten_cons, ih]; rfl
theorem sum_le {α : Type} (f : α → Nat) (b : Nat) : ∀ l : List α, (∀ x ∈ l, f x ≤ b) → (l.map f).sum ≤ l.length * b
  | [], _ => by simp
  | x :: l, h => by
    have := sum_le f b l fun y hy => h y (.tail _ hy)
    have h1 := h x (.head _)
    rw [List.map_cons, List.sum_cons, List.length_cons, Nat.add_mul]
    omega
theorem join_ok0 {ls : List (List Nat)} (b : Nat) (h : ∀ l ∈ ls, l.length ≤ b) (hs : ls.length * b ≤ 16777216) : ((ls.map tx).map (·.length)).sum + (ls.map tx).length * (PySem.Str.ofString "").length ≤ 16777216 := by
  have e : (PySem.Str.ofString "").length = 0 := by rfl
  have := sum_le (fun l : List Nat => l.length) b ls h
  rw [e, Nat.mul_zero, Nat.add_zero, List.map_map]
  have e2 : ls.map ((fun x : PySem.Str => x.length) ∘ tx) = ls.map (fun l : List Nat => l.length) := List.map_congr_left fun l _ => len_tx l
  rw [e2]; omega

/-- what `x in word` and its like need of the word's size -/
theorem sz {n : Nat} (h : n ≤ 1000000) : n ≤ sizeLine := Nat.le_trans h (by decide)
end Mine
end

section
set_option maxRecDepth 100000
namespace Mine
section
variable {prog : Program} {w : World} {S0 : Shared} {c : Cx} {m : Ms} {σ : Sto}

theorem ret_sub {K : V → Sto → Prop} {x : V} {m' : Ms} {σ2 σ3 : Sto} (hs : σ3.Sublist σ2) (h : K x σ3) : RetK S0 c m K (.ret x) m' σ2 := ⟨σ3, Wk.imp ⟨fun _ _ h => h, hs⟩, h⟩
theorem ret_none {K : V → Sto → Prop} {m' : Ms} {σ2 σ3 : Sto} (hs : σ3.Sublist σ2) (h : K .none σ3) : RetK S0 c m K .next m' σ2 := ⟨σ3, Wk.imp ⟨fun _ _ h => h, hs⟩, h⟩

/-- a loop by an invariant over states that may tell less -/
theorem ex_whl {t : Expr} {body : List Stmt} {pos : Pos} {rest : List Stmt} {K : Fl → Ms → Sto → Prop} (I : Nat → Ms → Sto → Prop) (n : Nat) {m0 : Ms} {σ0 : Sto} (hw : Wk m σ m0 σ0) (h0 : I n m0 σ0)
    (turn : ∀ n m σ, I n m σ → Et prog w S0 c t m σ fun x σ1 =>
      (x = true → Ex prog w S0 c body m σ1 fun F m' σ' => match F with
        | .next | .cont => ∃ k m0 σ0, k < n ∧ Wk m' σ' m0 σ0 ∧ I k m0 σ0
        | .brk => Ex prog w S0 c rest m' σ' K
        | .ret v => K (.ret v) m' σ') ∧
      (x = false → Ex prog w S0 c rest m σ1 K)) : Ex prog w S0 c (.While t body [] pos :: rest) m σ K := by
  refine Ex.wk hw (ex_cons (Ex1.of fun s R Q E k => wpAny_While ?_))
  refine codeAny_whileLoop (fun n s => ∃ m σ, Rel S0 (c.st m σ) s ∧ I n m σ) ?_ n ⟨m0, σ0, R, h0⟩
  rintro n s ⟨m, σ, R, hI⟩
  refine Et.get (turn n m σ hI) s R _ _ fun b σ1 s1 R1 h1 => ?_
  cases b
  · show wpAny _ _ (execs [] _) _ _ _
    refine wpAny_execs_nil ?_
    exact k .next .next m σ1 s1 R1 rfl (h1.2 rfl)
  · show wpAny _ _ (execs body _) _ _ _
    refine Ex.get (h1.1 rfl) s1 R1 _ _ fun f F m' σ' s' R' hf hk => ?_
    cases F with
    | next => obtain rfl : f = .next := hf; obtain ⟨j, m1, τ1, hj, hw, hi⟩ := hk; exact ⟨j, hj, m1, τ1, hw.imp s' R', hi⟩
    | cont => obtain rfl : f = .cont := hf; obtain ⟨j, m1, τ1, hj, hw, hi⟩ := hk; exact ⟨j, hj, m1, τ1, hw.imp s' R', hi⟩
    | brk => obtain rfl : f = .brk := hf; exact k .next .next m' σ' s' R' rfl hk
    | ret x => obtain ⟨v, rfl, hv⟩ := hf; exact k _ (.ret x) m' σ' s' R' ⟨v, rfl, hv⟩ hk

theorem turns_gen {P : Sto → Prop} {t : Expr} {body rest : List Stmt} {K : Fl → Ms → Sto → Prop} (Iv : List V → Ms → Sto → Prop) (hP : ∀ xs m T, Iv xs m T → P (c.st m T))
    (step : ∀ x xs m T, Iv (x :: xs) m T → ∀ p, Asg prog w S0 (c.push p) t x m T fun m1 τ1 => Ex prog w S0 (c.push p) body m1 τ1 fun F m' τ' => match F with
      | .next | .cont => ∃ m'' τ'', Wk m' τ' m'' τ'' ∧ Iv xs m'' τ''
      | .brk => Ex prog w S0 c rest m' τ' K
      | .ret v => K (.ret v) m' τ')
    (fin : ∀ m T, Iv [] m T → Ex prog w S0 c rest m T K) : ∀ xs m T, Iv xs m T → Turns prog w S0 c P t body rest K xs m T
  | [], m, T, h => ⟨hP _ _ _ h, fin _ _ h⟩
  | x :: xs, m, T, h => ⟨hP _ _ _ h, fun p v hv => Tr.mono (step x xs m T h p v hv) fun _ τ ⟨m', σ', hi, hk⟩ => ⟨m', σ', hi, Ex.mono hk fun F m1 τ1 hF => by
      cases F with
      | next => obtain ⟨m2, τ2, hw, hI⟩ := hF; exact ⟨m2, τ2, hw, turns_gen Iv hP step fin xs m2 τ2 hI⟩
      | cont => obtain ⟨m2, τ2, hw, hI⟩ := hF; exact ⟨m2, τ2, hw, turns_gen Iv hP step fin xs m2 τ2 hI⟩
      | brk => exact hF
      | ret v => exact hF⟩⟩

theorem Asg.mono {t : Expr} {x : V} {K K' : Ms → Sto → Prop} (h : Asg prog w S0 c t x m σ K) (k : ∀ m' σ', K m' σ' → K' m' σ') : Asg prog w S0 c t x m σ K' :=
  fun v hv => Tr.mono (h v hv) fun _ τ ⟨m', σ', hi, hk⟩ => ⟨m', σ', hi, k _ _ hk⟩
theorem Ev.mono {e : Expr} {K K' : V → Sto → Prop} (h : Ev prog w S0 c e m σ K) (k : ∀ v σ', K v σ' → K' v σ') : Ev prog w S0 c e m σ K' :=
  Tr.mono h fun _ τ ⟨v, σ', hz, hi, hk⟩ => ⟨v, σ', hz, hi, k _ _ hk⟩
theorem Et.mono {e : Expr} {K K' : Bool → Sto → Prop} (h : Et prog w S0 c e m σ K) (k : ∀ v σ', K v σ' → K' v σ') : Et prog w S0 c e m σ K' :=
  Tr.mono h fun _ τ ⟨σ', hi, hk⟩ => ⟨σ', hi, k _ _ hk⟩
theorem Tst.mono {es : List Expr} {σ : Sto} {K K' : Bool → Sto → Prop} (h : Tst prog w S0 c es m σ K) (k : ∀ v σ', K v σ' → K' v σ') : Tst prog w S0 c es m σ K' := by
  induction es generalizing σ with
  | nil => exact k _ _ h
  | cons e es ih => exact Et.mono h fun b σ' hb => ⟨fun e => ih (hb.1 e), fun e => k _ _ (hb.2 e)⟩

/-- a comprehension whose items are told by a function -/
theorem ct_gen {P : Sto → Prop} {t elt : Expr} {ifs : List Expr} {K : List V → Ms → Sto → Prop} (Iv : Sto → Prop) (pr : V → Bool) (g : V → V) (hP : ∀ T, Iv T → P (c.st [] T)) :
    ∀ (xs ys : List V) (T : Sto), Iv T → ys.length + xs.length ≤ sizeLine →
    (∀ x ∈ xs, ∀ T, Iv T → ∀ p q, Asg prog w S0 ((c.push q).push p) t x [] T fun m1 τ1 => Tst prog w S0 ((c.push q).push p) ifs m1 τ1 fun b τ2 => b = pr x ∧
      (b = true → Ev prog w S0 ((c.push q).push p) elt m1 τ2 fun y τ3 => y = g x ∧ ∃ T', T'.Sublist τ3 ∧ Iv T') ∧ (b = false → ∃ T', T'.Sublist τ2 ∧ Iv T')) →
    (∀ T, Iv T → K (ys ++ (xs.filter pr).map g) [] T) → CT prog w S0 c P t ifs elt K xs ys [] T
  | [], ys, T, hI, hl, turn, fin => ⟨hP _ hI, by have := fin T hI; simpa using this⟩
  | x :: xs, ys, T, hI, hl, turn, fin => by
    refine ⟨hP _ hI, by simp at hl; omega, fun p q => Asg.mono (turn x (.head _) T hI p q) fun m1 τ1 h1 => Tst.mono h1 fun b τ2 ⟨hb, h2, h3⟩ => ⟨fun e => Ev.mono (h2 e) fun y τ3 ⟨hy, T', hs, hI'⟩ => ?_, fun e => ?_⟩⟩
    · subst hy; subst hb
      refine ⟨[], T', ⟨fun _ _ h => (nomatch h), hs⟩, ct_gen Iv pr g hP xs (ys ++ [g x]) T' hI' (by simp at hl ⊢; omega) (fun x' hx' => turn x' (.tail _ hx')) fun T2 hT2 => ?_⟩
      have := fin T2 hT2
      rw [List.filter_cons, if_pos e, List.map_cons] at this
      rw [List.append_assoc]; exact this
    · subst hb
      obtain ⟨T', hs, hI'⟩ := h3 e
      refine ⟨[], T', ⟨fun _ _ h => (nomatch h), hs⟩, ct_gen Iv pr g hP xs ys T' hI' (by simp at hl ⊢; omega) (fun x' hx' => turn x' (.tail _ hx')) fun T2 hT2 => ?_⟩
      have := fin T2 hT2
      rw [List.filter_cons, if_neg (by rw [e]; decide)] at this
      exact this
/-- the same, without tests, in a store that stays -/
theorem ct_map {P : Sto → Prop} {t elt : Expr} {K : List V → Ms → Sto → Prop} (g : V → V) {xs : List V} {T : Sto} (hP : P (c.st [] T)) (hl : xs.length ≤ sizeLine)
    (turn : ∀ x ∈ xs, ∀ p q, Asg prog w S0 ((c.push q).push p) t x [] T fun m1 τ1 => Ev prog w S0 ((c.push q).push p) elt m1 τ1 fun y τ3 => y = g x ∧ T.Sublist τ3)
    (fin : K (xs.map g) [] T) : CT prog w S0 c P t [] elt K xs [] [] T :=
  ct_gen (fun T' => T' = T) (fun _ => true) g (fun T' h => h ▸ hP) xs [] T rfl (by simpa using hl) (fun x hx T' hT p q => by
    subst hT
    exact Asg.mono (turn x hx p q) fun m1 τ1 h1 => ⟨rfl, fun _ => Ev.mono h1 fun y τ3 ⟨a, b⟩ => ⟨a, T', b, rfl⟩, fun e => by cases e⟩) fun T' h => by subst h; rw [List.nil_append, List.filter_eq_self.mpr (fun _ _ => rfl)]; exact fin
/-- over items told by any list -/
theorem ct_genA {α : Type} {P : Sto → Prop} {t elt : Expr} {ifs : List Expr} {K : List V → Ms → Sto → Prop} (f : α → V) (Iv : Sto → Prop) (pr : α → Bool) (g : α → V) (hP : ∀ T, Iv T → P (c.st [] T)) :
    ∀ (xs : List α) (ys : List V) (T : Sto), Iv T → ys.length + xs.length ≤ sizeLine →
    (∀ x ∈ xs, ∀ T, Iv T → ∀ p q, Asg prog w S0 ((c.push q).push p) t (f x) [] T fun m1 τ1 => Tst prog w S0 ((c.push q).push p) ifs m1 τ1 fun b τ2 => b = pr x ∧
      (b = true → Ev prog w S0 ((c.push q).push p) elt m1 τ2 fun y τ3 => y = g x ∧ ∃ T', T'.Sublist τ3 ∧ Iv T') ∧ (b = false → ∃ T', T'.Sublist τ2 ∧ Iv T')) →
    (∀ T, Iv T → K (ys ++ (xs.filter pr).map g) [] T) → CT prog w S0 c P t ifs elt K (xs.map f) ys [] T
  | [], ys, T, hI, hl, turn, fin => ⟨hP _ hI, by have := fin T hI; simpa using this⟩
  | x :: xs, ys, T, hI, hl, turn, fin => by
    refine ⟨hP _ hI, by simp at hl; omega, fun p q => Asg.mono (turn x (.head _) T hI p q) fun m1 τ1 h1 => Tst.mono h1 fun b τ2 ⟨hb, h2, h3⟩ => ⟨fun e => Ev.mono (h2 e) fun y τ3 ⟨hy, T', hs, hI'⟩ => ?_, fun e => ?_⟩⟩
    · subst hy; subst hb
      refine ⟨[], T', ⟨fun _ _ h => (nomatch h), hs⟩, ct_genA f Iv pr g hP xs (ys ++ [g x]) T' hI' (by simp at hl ⊢; omega) (fun x' hx' => turn x' (.tail _ hx')) fun T2 hT2 => ?_⟩
      have := fin T2 hT2
      rw [List.filter_cons, if_pos e, List.map_cons] at this
      rw [List.append_assoc]; exact this
    · subst hb
      obtain ⟨T', hs, hI'⟩ := h3 e
      refine ⟨[], T', ⟨fun _ _ h => (nomatch h), hs⟩, ct_genA f Iv pr g hP xs ys T' hI' (by simp at hl ⊢; omega) (fun x' hx' => turn x' (.tail _ hx')) fun T2 hT2 => ?_⟩
      have := fin T2 hT2
      rw [List.filter_cons, if_neg (by rw [e]; decide)] at this
      exact this
theorem ct_mapA {α : Type} {P : Sto → Prop} {t elt : Expr} {K : List V → Ms → Sto → Prop} (f g : α → V) {xs : List α} {T : Sto} (hP : P (c.st [] T)) (hl : xs.length ≤ sizeLine)
    (turn : ∀ x ∈ xs, ∀ p q, Asg prog w S0 ((c.push q).push p) t (f x) [] T fun m1 τ1 => Ev prog w S0 ((c.push q).push p) elt m1 τ1 fun y τ3 => y = g x ∧ T.Sublist τ3)
    (fin : K (xs.map g) [] T) : CT prog w S0 c P t [] elt K (xs.map f) [] [] T :=
  ct_genA f (fun T' => T' = T) (fun _ => true) g (fun T' h => h ▸ hP) xs [] T rfl (by simpa using hl) (fun x hx T' hT p q => by
    subst hT
    exact Asg.mono (turn x hx p q) fun m1 τ1 h1 => ⟨rfl, fun _ => Ev.mono h1 fun y τ3 ⟨a, b⟩ => ⟨a, T', b, rfl⟩, fun e => by cases e⟩) fun T' h => by subst h; rw [List.nil_append, List.filter_eq_self.mpr (fun _ _ => rfl)]; exact fin
theorem ct_filterA {α : Type} {P : Sto → Prop} {t elt test : Expr} {K : List V → Ms → Sto → Prop} (f : α → V) (pr : α → Bool) (g : α → V) {xs : List α} {T : Sto} (hP : P (c.st [] T)) (hl : xs.length ≤ sizeLine)
    (turn : ∀ x ∈ xs, ∀ p q, Asg prog w S0 ((c.push q).push p) t (f x) [] T fun m1 τ1 => Et prog w S0 ((c.push q).push p) test m1 τ1 fun b τ2 => b = pr x ∧ T.Sublist τ2 ∧
      (b = true → Ev prog w S0 ((c.push q).push p) elt m1 τ2 fun y τ3 => y = g x ∧ T.Sublist τ3))
    (fin : K ((xs.filter pr).map g) [] T) : CT prog w S0 c P t [test] elt K (xs.map f) [] [] T :=
  ct_genA f (fun T' => T' = T) pr g (fun T' h => h ▸ hP) xs [] T rfl (by simpa using hl) (fun x hx T' hT p q => by
    subst hT
    refine Asg.mono (turn x hx p q) fun m1 τ1 h1 => Et.mono h1 fun b τ2 ⟨hb, hs, h2⟩ => ⟨fun e => ?_, fun e => ?_⟩
    · subst e; exact ⟨hb, fun e => Ev.mono (h2 e) fun y τ3 ⟨a, b⟩ => ⟨a, T', b, rfl⟩, fun e => by cases e⟩
    · subst e; exact ⟨hb, (fun e => by cases e), fun _ => ⟨T', hs, rfl⟩⟩) fun T' h => by subst h; simpa using fin
end
end Mine
end

section
set_option maxRecDepth 100000
namespace Mine
noncomputable def minL : List Int → Int
  | [] => 0
  | x :: xs => xs.foldl min x
noncomputable def maxL : List Int → Int
  | [] => 0
  | x :: xs => xs.foldl max x
section
variable {prog : Program} {w : World} {S0 : Shared} {c : Cx} {m : Ms} {σ : Sto} {K : V → Sto → Prop}
theorem Turns.perm {P : Sto → Prop} {t : Expr} {body rest : List Stmt} {K : Fl → Ms → Sto → Prop} {τ : Sto} {xs : List V} (hP : P (c.st m σ)) (h : σ.Perm τ) (k : Turns prog w S0 c P t body rest K xs m τ) : Turns prog w S0 c P t body rest K xs m σ := by
  cases xs with
  | nil => exact ⟨hP, Tr.weak (Imp.perm (.cons _ (.append_left _ h))) k.2⟩
  | cons x xs => exact ⟨hP, fun p v hv => Tr.weak (Imp.perm (.cons _ (.append_left _ h))) (k.2 p v hv)⟩
end
end Mine
end

section
open PySem.Builtin PySem.Builtin.Str
set_option maxRecDepth 100000
namespace Mine
section
variable {prog : Program} {w : World} {S0 : Shared} {c : Cx} {m : Ms} {σ : Sto} {K : V → Sto → Prop}
theorem units_le {A : Around} (h : A.in1.units < cLine) : A.units < cLine := by
  have : A.units ≤ A.in1.units := by unfold Around.in1; simp
  omega
theorem tuple_is {a : Addr} {xs : List V} {τ : Sto} {s : Shared} (R : Rel S0 τ s) (hm : (a, O.tuple xs) ∈ τ) : ∃ vs, s.heap.IsTuple a vs.toArray ∧ RzL xs vs := by
  obtain ⟨vs, n, ht, hz⟩ := tuple_at R hm
  exact ⟨vs, ⟨_, ht, rfl, n, rfl⟩, hz⟩
/-- two pairs of texts -/
theorem pair_eq {A : Around} {a b : Addr} {u v u' v' : PySem.Str} {vs us : List Value} {s : Shared} (ha : s.heap.IsTuple a vs.toArray) (hb : s.heap.IsTuple b us.toArray) (hz : RzL [.str u, .str v] vs) (hz' : RzL [.str u', .str v'] us) (hu : A.units < cLine) :
    SeqAt.RcAt A s (.ref a) (.ref b) (u == u' && v == v') ∧ SeqAt.RcNeAt A s (.ref a) (.ref b) (!(u == u' && v == v')) := by
  obtain ⟨v1, v2, rfl, ⟨t1, rfl⟩, t2, rfl⟩ := hz.two
  obtain ⟨u1, u2, rfl, ⟨t3, rfl⟩, t4, rfl⟩ := hz'.two
  have he : ∀ j (h1 : j < [Value.str u t1, Value.str v t2].toArray.size) (h2 : j < [Value.str u' t3, Value.str v' t4].toArray.size), SeqAt.EqAt A.in1 s [Value.str u t1, Value.str v t2].toArray[j] [Value.str u' t3, Value.str v' t4].toArray[j] (if j = 0 then u == u' else v == v') := fun j h1 h2 => by
    match j, h1, h2 with
    | 0, _, _ => exact SeqAt.EqAt.str_str _ _ _ _
    | 1, _, _ => exact SeqAt.EqAt.str_str _ _ _ _
  have e : ((List.range (min [Value.str u t1, Value.str v t2].toArray.size [Value.str u' t3, Value.str v' t4].toArray.size)).all (fun j => if j = 0 then u == u' else v == v') && [Value.str u t1, Value.str v t2].toArray.size == [Value.str u' t3, Value.str v' t4].toArray.size) = (u == u' && v == v') := by
    show (([0, 1] : List Nat).all (fun j => if j = 0 then u == u' else v == v') && true) = _
    simp
  constructor
  · have := SeqAt.RcAt.tuples ha hb hu he
    rw [e] at this; exact this
  · have := SeqAt.RcNeAt.tuples ha hb hu he
    rw [e] at this; exact this
theorem pair_same {a : Addr} {u v u' v' : PySem.Str} {vs us : List Value} {h : Heap} (ha : h.IsTuple a vs.toArray) (hb : h.IsTuple a us.toArray) (hz : RzL [.str u, .str v] vs) (hz' : RzL [.str u', .str v'] us) : u = u' ∧ v = v' := by
  obtain ⟨v1, v2, rfl, ⟨t1, rfl⟩, t2, rfl⟩ := hz.two
  obtain ⟨u1, u2, rfl, ⟨t3, rfl⟩, t4, rfl⟩ := hz'.two
  obtain ⟨o, ho, _, n, hd⟩ := ha
  obtain ⟨o', ho', _, n', hd'⟩ := hb
  rw [ho] at ho'; cases ho'
  rw [hd] at hd'
  injection hd' with h1
  have := congrArg Array.toList h1
  simp at this
  exact ⟨this.1.1, this.2.1⟩
theorem pair_eqat {A : Around} {a b : Addr} {u v u' v' : PySem.Str} {vs us : List Value} {s : Shared} (ha : s.heap.IsTuple a vs.toArray) (hb : s.heap.IsTuple b us.toArray) (hz : RzL [.str u, .str v] vs) (hz' : RzL [.str u', .str v'] us) (hu : A.units < cLine) :
    SeqAt.EqAt A s (.ref a) (.ref b) (u == u' && v == v') := by
  by_cases hab : a = b
  · subst hab
    obtain ⟨rfl, rfl⟩ := pair_same ha hb hz hz'
    rw [beq_self_eq_true, beq_self_eq_true]
    exact SeqAt.EqAt.same _
  · exact SeqAt.EqAt.of_refs hab (pair_eq ha hb hz hz' hu).1
theorem cmp_tne {a b : Addr} {u v u' v' : PySem.Str} (ha : (a, O.tuple [.str u, .str v]) ∈ c.st m σ) (hb : (b, O.tuple [.str u', .str v']) ∈ c.st m σ) (hu : c.A.units < cLine) (h : K (.bool (!(u == u' && v == v'))) σ) : Cmp prog w S0 c m σ .NotEq (.ref a) (.ref b) K := by
  rintro _ _ rfl rfl
  refine Op.of fun s R Q E k => ?_
  obtain ⟨vs, h1, z1⟩ := tuple_is R ha
  obtain ⟨us, h2, z2⟩ := tuple_is R hb
  exact EqBoolInt.of_rcne (pair_eq h1 h2 z1 z2 hu).2 (k _ (.bool _) σ s R rfl h)

/-- a list of pairs: the places of its pairs, the pairs -/
noncomputable abbrev Prs := List (Addr × PySem.Str × PySem.Str)
noncomputable def prO (t : Addr × PySem.Str × PySem.Str) : Addr × O := (t.1, .tuple [.str t.2.1, .str t.2.2])
theorem any_pairs {u v : PySem.Str} (e : Value → Bool) : ∀ {ps : Prs} {vs : List Value}, RzL (ps.map fun t => V.ref t.1) vs → (∀ t ∈ ps, e (.ref t.1) = (t.2.1 == u && t.2.2 == v)) → vs.any e = (ps.map (·.2)).contains (u, v)
  | [], [], _, _ => rfl
  | [], _ :: _, h, _ => h.elim
  | _ :: _, [], h, _ => h.elim
  | t :: ps, x :: vs, ⟨hx, hz⟩, he => by
    obtain rfl : x = .ref t.1 := hx
    rw [List.any_cons, any_pairs e hz (fun y hy => he y (.tail _ hy)), he t (.head _), List.map_cons, List.contains_cons]
    congr 1
    rw [Bool.eq_iff_iff]
    simp only [Bool.and_eq_true, beq_iff_eq]
    constructor
    · rintro ⟨rfl, rfl⟩; rfl
    · intro h; rw [← h]; exact ⟨rfl, rfl⟩
theorem pair_items {a b : Addr} {ps : Prs} {u v : PySem.Str} {s : Shared} {A : Around} (R : Rel S0 (c.st m σ) s) (ha : (a, O.tuple [.str u, .str v]) ∈ c.st m σ) (hb : (b, O.list (ps.map fun t => V.ref t.1)) ∈ c.st m σ) (hp : ∀ t ∈ ps, prO t ∈ c.st m σ) (hu : A.in1.units < cLine) :
    ∃ (vs : List Value) (n : Nat) (e : Value → Bool), IsL s.heap b vs.toArray n ∧ (∀ y, y ∈ vs.toArray → SeqAt.EqAt A.in1 s y (.ref a) (e y)) ∧ vs.toArray.any e = (ps.map (·.2)).contains (u, v) := by
  obtain ⟨xs, h1, z1⟩ := tuple_is R ha
  obtain ⟨vs, n, hl, hz⟩ := list_at R hb
  let e : Value → Bool := fun y => match y with | .ref r => (ps.filter fun t => t.1 == r).any fun t => t.2.1 == u && t.2.2 == v | _ => false
  have one : ∀ t ∈ ps, ∀ t' ∈ ps, t.1 = t'.1 → t.2 = t'.2 := fun t ht t' ht' e => by
    obtain ⟨us, g1, w1⟩ := tuple_is R (hp t ht)
    obtain ⟨us', g2, w2⟩ := tuple_is R (hp t' ht')
    have g2 : s.heap.IsTuple t'.1 us'.toArray := g2
    rw [← e] at g2
    obtain ⟨q1, q2⟩ := pair_same g1 g2 w1 w2
    exact Prod.ext q1 q2
  have he : ∀ t ∈ ps, e (.ref t.1) = (t.2.1 == u && t.2.2 == v) := fun t ht => by
    show ((ps.filter fun t' => t'.1 == t.1).any fun t => t.2.1 == u && t.2.2 == v) = _
    rw [Bool.eq_iff_iff, List.any_eq_true]
    constructor
    · rintro ⟨t', ht', q⟩
      obtain ⟨p1, p2⟩ := List.mem_filter.mp ht'
      rw [one t ht t' p1 (eq_of_beq p2).symm]; exact q
    · intro q; exact ⟨t, List.mem_filter.mpr ⟨ht, beq_self_eq_true _⟩, q⟩
  refine ⟨vs, n, e, hl, fun y hy => ?_, ?_⟩
  · have hy : y ∈ vs := by simpa using hy
    obtain ⟨j, hj, ej⟩ := List.getElem_of_mem hy
    have hlen := hz.length
    rw [List.length_map] at hlen
    have hjp : j < ps.length := by omega
    have g : (ps.map fun t => V.ref t.1)[j]? = some (V.ref ps[j].1) := by rw [List.getElem?_map, List.getElem?_eq_getElem hjp]; rfl
    obtain ⟨y', hy', hz'⟩ := hz.get g
    rw [List.getElem?_eq_getElem hj, ej] at hy'
    obtain rfl : y = .ref ps[j].1 := (Option.some.inj hy').trans hz'
    have hmem : ps[j] ∈ ps := List.getElem_mem hjp
    rw [he _ hmem]
    obtain ⟨us, g1, w1⟩ := tuple_is R (hp _ hmem)
    exact pair_eqat g1 h1 w1 z1 hu
  · rw [← Array.any_toList]
    exact any_pairs e hz he
theorem cmp_in_pairs {a b : Addr} {ps : Prs} {u v : PySem.Str} (ha : (a, O.tuple [.str u, .str v]) ∈ c.st m σ) (hb : (b, O.list (ps.map fun t => V.ref t.1)) ∈ c.st m σ) (hp : ∀ t ∈ ps, prO t ∈ c.st m σ) (hu : c.A.in1.units < cLine) (h : K (.bool ((ps.map (·.2)).contains (u, v))) σ) : Cmp prog w S0 c m σ .In (.ref a) (.ref b) K := by
  rintro _ _ rfl rfl
  refine Op.of fun s R Q E k => ?_
  obtain ⟨vs, n, e, hl, he, hany⟩ := pair_items R ha hb hp hu
  exact SeqAt.in_listAt e hl.isList he (k _ (.bool _) σ s R rfl (by rw [hany]; exact h))
theorem cmp_notin_pairs {a b : Addr} {ps : Prs} {u v : PySem.Str} (ha : (a, O.tuple [.str u, .str v]) ∈ c.st m σ) (hb : (b, O.list (ps.map fun t => V.ref t.1)) ∈ c.st m σ) (hp : ∀ t ∈ ps, prO t ∈ c.st m σ) (hu : c.A.in1.units < cLine) (h : K (.bool (!(ps.map (·.2)).contains (u, v))) σ) : Cmp prog w S0 c m σ .NotIn (.ref a) (.ref b) K := by
  rintro _ _ rfl rfl
  refine Op.of fun s R Q E k => ?_
  obtain ⟨vs, n, e, hl, he, hany⟩ := pair_items R ha hb hp hu
  exact SeqAt.notIn_listAt e hl.isList he (k _ (.bool _) σ s R rfl (by rw [hany]; exact h))
/-- two lists of pairs -/
theorem cmp_plne {a b : Addr} {ps qs : Prs} (ha : (a, O.list (ps.map fun t => V.ref t.1)) ∈ c.st m σ) (hb : (b, O.list (qs.map fun t => V.ref t.1)) ∈ c.st m σ) (hp : ∀ t ∈ ps, prO t ∈ c.st m σ) (hq : ∀ t ∈ qs, prO t ∈ c.st m σ) (hu : c.A.in1.units < cLine)
    (h : K (.bool (!(ps.map (·.2) == qs.map (·.2)))) σ) : Cmp prog w S0 c m σ .NotEq (.ref a) (.ref b) K := by
  rintro _ _ rfl rfl
  refine Op.of fun s R Q E k => ?_
  obtain ⟨vs, n, hl, hz⟩ := list_at R ha
  obtain ⟨us, n', hl', hz'⟩ := list_at R hb
  have l1 : vs.length = ps.length := by simpa using hz.length.symm
  have l2 : us.length = qs.length := by simpa using hz'.length.symm
  by_cases hlen : ps.length = qs.length
  · have he : ∀ j (h1 : j < vs.toArray.size) (h2 : j < us.toArray.size), SeqAt.EqAt c.A.in1 s vs.toArray[j] us.toArray[j] ((ps.map (·.2))[j]? == (qs.map (·.2))[j]?) := fun j h1 h2 => by
      simp only [List.size_toArray] at h1 h2
      have j1 : j < ps.length := by omega
      have j2 : j < qs.length := by omega
      obtain ⟨v, hv, hvz⟩ := hz.get (show (ps.map fun t => V.ref t.1)[j]? = some (V.ref ps[j].1) by rw [List.getElem?_map, List.getElem?_eq_getElem j1]; rfl)
      obtain ⟨u, hu', huz⟩ := hz'.get (show (qs.map fun t => V.ref t.1)[j]? = some (V.ref qs[j].1) by rw [List.getElem?_map, List.getElem?_eq_getElem j2]; rfl)
      rw [List.getElem?_eq_getElem h1] at hv
      rw [List.getElem?_eq_getElem h2] at hu'
      obtain rfl : v = .ref ps[j].1 := hvz
      obtain rfl : u = .ref qs[j].1 := huz
      obtain ⟨xs, g1, w1⟩ := tuple_is R (hp _ (List.getElem_mem j1))
      obtain ⟨ys, g2, w2⟩ := tuple_is R (hq _ (List.getElem_mem j2))
      have key := pair_eqat (A := c.A.in1) g1 g2 w1 w2 hu
      rw [show vs.toArray[j] = .ref ps[j].1 from Option.some.inj hv, show us.toArray[j] = .ref qs[j].1 from Option.some.inj hu', List.getElem?_map, List.getElem?_map, List.getElem?_eq_getElem j1, List.getElem?_eq_getElem j2]
      have : ((Option.map (fun x : Addr × PySem.Str × PySem.Str => x.2) (some ps[j])) == (Option.map (fun x : Addr × PySem.Str × PySem.Str => x.2) (some qs[j]))) = (ps[j].2.1 == qs[j].2.1 && ps[j].2.2 == qs[j].2.2) := by
        rw [Bool.eq_iff_iff]
        simp only [Option.map_some, beq_iff_eq, Option.some.injEq, Bool.and_eq_true]
        constructor
        · intro h; rw [h]; exact ⟨rfl, rfl⟩
        · rintro ⟨h1, h2⟩; exact Prod.ext h1 h2
      rw [this]; exact key
    have e := range_all_eq (xs := ps.map (·.2)) (ys := qs.map (·.2)) (by simp [hlen])
    rw [List.length_map, ← l1] at e
    have := SeqAt.RcNeAt.lists hl.isList hl'.isList (by simp [l1, l2, hlen]) (units_le hu) he
    rw [List.size_toArray, e] at this
    exact EqBoolInt.of_rcne this (k _ (.bool _) σ s R rfl h)
  · have hs : (vs.toArray.size != us.toArray.size) = true := by simp [l1, l2, hlen]
    rw [len_ne (xs := ps.map (·.2)) (ys := qs.map (·.2)) (by simp [hlen])] at h
    exact EqBoolInt.of_rcne (SeqAt.RcNeAt.lists_lengths hl.isList hl'.isList hs (units_le hu)) (k _ (.bool _) σ s R rfl h)
theorem cmp_bne {a b : Bool} (h : K (.bool (!(a == b))) σ) : Cmp prog w S0 c m σ .NotEq (.bool a) (.bool b) K := by
  rintro _ _ rfl rfl
  exact Op.of fun s R Q E k => EqBoolInt.of_rcne (SeqAt.RcNeAt.bool_bool a b) (k _ (.bool _) σ s R rfl h)
theorem cmp_slt {x y : PySem.Str} (h : K (.bool (decide (x.cps.toList < y.cps.toList))) σ) : Cmp prog w S0 c m σ .Lt (.str x) (.str y) K := by
  rintro _ _ ⟨t, rfl⟩ ⟨u, rfl⟩
  exact Op.of fun s R Q E k => lt_str (k _ (.bool _) σ s R rfl h)
/-- text.split(sign) -/
theorem cal_split {x y : PySem.Str} (hy : (y.length == 0) = false) (hsz : x.length ≤ 1000000) (h : ∀ a, K (.ref a) ((a, .list ((Txt.split x y).map V.str)) :: σ)) : Cal prog w S0 c m σ (.abs (.builtin "str.split")) [.str x, .str y] [] K := cal_bi fun vs hv s R Q E k => by
  obtain ⟨v, u, rfl, ⟨t, rfl⟩, t', rfl⟩ := hv.two
  have hn : (partsBetween x (occurrences x y 0 x.length (x.length + 1)) y.length).length ≤ sizeLine := by
    have e1 := StrLaws.occ_length_le x y 0 x.length (x.length + 1)
    rw [length_partsBetween, sizeLine_eq]; omega
  have hs1 : x.length ≤ sizeLine := by rw [sizeLine_eq]; omega
  have fin : ∀ (l : List (PySem.Str × Tok)) (tk : Nat), l.map (·.1) = Txt.split x y → Q (.ref s.heap.objs.size) { s with heap := s.heap.push { cls := .type "list", data := .seq (strValues l).toArray }, toks := tk } := fun l tk e => by
    refine k _ (.ref s.heap.objs.size) _ _ (R.new (x := .list ((Txt.split x y).map V.str)) ⟨strValues l, 0, rfl, ?_⟩ rfl tk) rfl (h _)
    rw [← e]
    clear e
    induction l with
    | nil => trivial
    | cons p l ih => exact ⟨⟨p.2, rfl⟩, ih⟩
  cases h1 : (decide (x.length < y.length) || decide (strKind x < strKind y))
  · cases hf : (occurrences x y 0 x.length (x.length + 1)).isEmpty
    · refine call_meets F.slot_str_split (typeIs_str _ _ _) F.entry_str_split (F.args_str_split_2 _ _) (meets_str_split_sep x y t t' h1 hy hf hs1 hn) ?_
      show wants Q E _ { s with toks := _, heap := s.heap.push { cls := .type "list", data := .seq (strsFrom s.toks (partsBetween x (occurrences x y 0 x.length (x.length + 1)) y.length)).toArray } }
      rw [strsFrom_eq]
      exact fin (numbered s.toks _) _ ((numbered_texts _ _).trans ((if_neg (ne_true_of_eq_false h1)).trans (if_neg (ne_true_of_eq_false hf))).symm)
    · exact call_meets F.slot_str_split (typeIs_str _ _ _) F.entry_str_split (F.args_str_split_2 _ _) (meets_str_split_not_found x y t t' h1 hy hf)
        (fin [(x, t)] s.toks ((if_neg (ne_true_of_eq_false h1)).trans (if_pos hf)).symm)
  · exact call_meets F.slot_str_split (typeIs_str _ _ _) F.entry_str_split (F.args_str_split_2 _ _) (meets_str_split_cannot_occur x y t t' h1)
      (fin [(x, t)] s.toks (if_pos h1).symm)
end
end Mine
end

section
set_option maxRecDepth 10000
namespace Mine
noncomputable abbrev comp2 (elt t1 i1 t2 i2 : Expr) (ifs : List Expr) (scope : Scope) (pos : Pos) : Expr := .ListComp elt [⟨t1, i1, [], 0⟩, ⟨t2, i2, ifs, 0⟩] scope pos
theorem compTurn_two0 (elt t1 i1 t2 i2 : Expr) (ifs : List Expr) (scope : Scope) (pos : Pos) (it acc : Value) (env : Env) :
    compTurn (comp2 elt t1 i1 t2 i2 ifs scope pos) 0 it acc env = (do
      standAt i1.pos
      match ← pyNext it with
      | none => pure (.done .next)
      | some v =>
        letOwnedTupleGo t1 it v
        assign t1 env v
        let x ← eval i2 env
        standAt i2.pos
        let x ← foldedSetIterable i2 env x
        let _ ← runOwn (.compStart (comp2 elt t1 i1 t2 i2 ifs scope pos) 1 (← holding [x] (pyIter x)) acc env) env
        again (.compLoop (comp2 elt t1 i1 t2 i2 ifs scope pos) 0 it acc env)) := by rfl
theorem compTurn_two1 (elt t1 i1 t2 i2 : Expr) (ifs : List Expr) (scope : Scope) (pos : Pos) (it acc : Value) (env : Env) :
    compTurn (comp2 elt t1 i1 t2 i2 ifs scope pos) 1 it acc env = (do
      standAt i2.pos
      match ← pyNext it with
      | none => pure (.done .next)
      | some v =>
        letOwnedTupleGo t2 it v
        assign t2 env v
        let mut ok := true
        for c in ifs do
          if ok then ok ← isTrue c env (eval c env)
        if ok then
          (do let _ ← call (.builtin "list.append") [acc, ← eval elt env])
        again (.compLoop (comp2 elt t1 i1 t2 i2 ifs scope pos) 1 it acc env)) := by rfl
section
variable {prog : Program} {w : World} {S0 : Shared} {c : Cx} {m : Ms} {σ : Sto}
theorem compStart_two1 {A : Around} {R : Result → Shared → Prop} {s : Shared} {elt t1 i1 t2 i2 : Expr} {ifs : List Expr} {scope : Scope} {pos : Pos} {it acc : Value} {env : Env}
    (h0 : codeAny (model prog w) A (.compLoop (comp2 elt t1 i1 t2 i2 ifs scope pos) 1 it acc env) R s)
    (h : wpAny (model prog w) A (pyIter it) (fun it' s' => codeAny (model prog w) A (.compLoop (comp2 elt t1 i1 t2 i2 ifs scope pos) 1 it' acc env) R s')
      (notedBy (model prog w) A env fun x s' => R (.error x) s') s) :
    codeAny (model prog w) A (.compStart (comp2 elt t1 i1 t2 i2 ifs scope pos) 1 it acc env) R s := by
  refine codeAny_of_tree ?_
  show wpAny _ _ ((compStart (comp2 elt t1 i1 t2 i2 ifs scope pos) 1 it acc env).onRaise (fun x => do noteFrame x env; standAt theWindowsPlace)) _ _ s
  refine wpAny_notedAt ?_
  unfold compStart
  show wpAny _ _ (ask >>= _) _ _ s
  refine wpAny_bind (wpAny_askSetting (wpAny_ite ?_))
  split
  · first
      | exact wpAny_bind (wpAny_pure (wpAny_pure (And.intro rfl h0)))
      | exact wpAny_pure (And.intro rfl h0)
  · first
      | exact wpAny_bind (wpAny_rule (wpAny_bind (wpAny_standAt (wpAny_bind (wpAny_mono h (fun it' s' h' => wpAny_pure (And.intro rfl h')) fun _ _ x => x)))))
      | (refine wpAny_bind (wpAny_rule ?_); show wpAny _ _ (standAt i2.pos >>= _) _ _ s; exact wpAny_bind (wpAny_standAt (wpAny_bind (wpAny_mono h (fun it' s' h' => wpAny_pure (And.intro rfl h')) fun _ _ x => x))))

theorem comp_loop1 {elt t1 i1 t2 i2 : Expr} {ifs : List Expr} {scope : Scope} {pos : Pos} {P : Sto → Prop} {K : List V → Ms → Sto → Prop} {it acc : Addr} {o : Nat → O} {xs ys0 : List V} {τ : Sto} {s : Shared} {Rr : Result → Shared → Prop}
    (I : Itr prog w S0 it o xs P) (R : Rel S0 ((it, o 0) :: (acc, .list ys0) :: c.st m τ) s) (h : CT prog w S0 c P t2 ifs elt K xs ys0 m τ)
    (k : ∀ ys m' τ' s', Rel S0 ((acc, .list ys) :: c.st m' τ') s' → K ys m' τ' → Rr (.ok .next) s') :
    codeAny (model prog w) c.A (.compStart (comp2 elt t1 i1 t2 i2 ifs scope pos) 1 (.ref it) (.ref acc) c.env) Rr s := by
  have loop : codeAny (model prog w) c.A (.compLoop (comp2 elt t1 i1 t2 i2 ifs scope pos) 1 (.ref it) (.ref acc) c.env) Rr s := by
    refine codeAny_loop rfl (fun n s => ∃ i ys m τ, i + n = xs.length ∧ Rel S0 ((it, o i) :: (acc, .list ys) :: c.st m τ) s ∧ CT prog w S0 c P t2 ifs elt K (xs.drop i) ys m τ) (fun n s3 hI => ?_) xs.length ⟨0, ys0, m, τ, by omega, R, h⟩
    obtain ⟨i, ys, m3, τ3, hn, R3, hT3⟩ := hI
    show wpAny _ _ ((compTurn (comp2 elt t1 i1 t2 i2 ifs scope pos) 1 (.ref it) (.ref acc) c.env).onRaise (fun x => do noteFrame x c.env; theTreesLotGoes x)) _ _ s3
    refine wpAny_noted ?_
    rw [compTurn_two1]
    refine wpAny_bind (wpAny_standAt (wpAny_bind ?_))
    cases hi : xs[i]? with
    | none =>
      have e : xs.drop i = [] := List.drop_eq_nil_of_le (by simpa using hi)
      rw [e] at hT3
      exact I.done c.hand R3 (I.mono hT3.1) hi _ _ fun s4 R4 => wpAny_pure (k ys m3 τ3 s4 R4 hT3.2)
    | some x =>
      obtain ⟨hlt, ex⟩ := List.getElem?_eq_some_iff.mp hi
      have e : xs.drop i = x :: xs.drop (i + 1) := by rw [List.drop_eq_getElem_cons hlt, ex]
      rw [e] at hT3
      refine I.next c.hand R3 (I.mono hT3.1) hi _ _ fun v s4 R4 hv => ?_
      refine wpAny_bind (I.owned t2 v R4 _ _ ?_)
      have toC : ∀ {m τ} , ((it, o (i + 1)) :: (acc, O.list ys) :: c.st m τ).Perm (((c.push (acc, .list ys)).push (it, o (i + 1))).st m τ) := fun {m τ} =>
        (List.Perm.cons _ (push_perm (p := (acc, O.list ys)))).trans push_perm
      refine wpAny_bind (Asg.get (hT3.2.2 (it, o (i + 1)) (acc, .list ys)) v hv s4 (R4.perm toC) _ _ fun m5 τ5 s5 R5 h5 => ?_)
      refine wpAny_bind (Tst.get h5 s5 R5 _ _ fun b τ6 s6 R6 h6 => ?_)
      cases b with
      | false =>
        obtain ⟨m'', τ'', hw, hT'⟩ := h6.2 rfl
        exact wpAny_pure ⟨rfl, n - 1, by omega, i + 1, ys, m'', τ'', by omega, (hw.imp s6 R6).perm toC.symm, hT'⟩
      | true =>
        refine wpAny_bind (wpAny_bind (Op.get (h6.1 rfl) s6 R6 _ _ fun v y τ7 s7 R7 hy h7 => wpAny_bind ?_))
        obtain ⟨m'', τ'', hw, hT'⟩ := h7
        have R8 := (hw.imp s7 R7).perm (toC (m := m'') (τ := τ'')).symm
        obtain ⟨_, ob, hob, vs, nn, rfl, hz⟩ := R8.objs (acc, .list ys) (.tail _ (.head _))
        refine wpAny_list_append_plain ⟨nn, hob⟩ (fun h' ⟨nn', hob'⟩ hs => wpAny_pure (wpAny_pure ⟨rfl, n - 1, by omega, i + 1, ys ++ [y], m'', τ'', by omega, ?_, hT'⟩)) (by rw [List.size_toArray, ← hz.length]; exact hT3.2.1)
        exact Rel.put (y := .list (ys ++ [y])) (.tail .head) R8 hs hob' ⟨vs ++ [v], nn', by simp, hz.snoc hy⟩ s7.toks
  exact compStart_two1 loop (I.self R _ _ loop)

/-- the turns of two loops in one comprehension -/
noncomputable def CT2 (prog : Program) (w : World) (S0 : Shared) (c : Cx) (P : Sto → Prop) (t1 t2 i2 : Expr) (ifs : List Expr) (elt : Expr) (K : List V → Ms → Sto → Prop) : List V → List V → Ms → Sto → Prop
  | [], ys, m, τ => P (c.st m τ) ∧ K ys m τ
  | x :: xs, ys, m, τ => P (c.st m τ) ∧ ∀ p q, Asg prog w S0 ((c.push q).push p) t1 x m τ fun m1 τ1 => Ev prog w S0 ((c.push q).push p) i2 m1 τ1 fun y τ2 => ∃ xs2 P2, Itb prog w S0 y xs2 P2 ∧ P2 (((c.push q).push p).st m1 τ2) ∧ P2 ((c.push p).st m1 τ2) ∧
      CT prog w S0 (c.push p) P2 t2 ifs elt (fun ys' m' τ' => ∃ m'' τ'', Wk m' τ' m'' τ'' ∧ CT2 prog w S0 c P t1 t2 i2 ifs elt K xs ys' m'' τ'') xs2 ys m1 τ2

theorem comp_loop2 {elt t1 i1 t2 i2 : Expr} {ifs : List Expr} {scope : Scope} {pos : Pos} {P : Sto → Prop} {K : List V → Ms → Sto → Prop} {it acc : Addr} {o : Nat → O} {xs : List V} {τ : Sto} {s : Shared} {Rr : Result → Shared → Prop}
    (I : Itr prog w S0 it o xs P) (R : Rel S0 ((it, o 0) :: (acc, .list []) :: c.st m τ) s) (h : CT2 prog w S0 c P t1 t2 i2 ifs elt K xs [] m τ) (hs2 : ∀ x, foldedSetIterable i2 c.env x = pure x)
    (k : ∀ ys m' τ' s', Rel S0 ((acc, .list ys) :: c.st m' τ') s' → K ys m' τ' → Rr (.ok .next) s') :
    codeAny (model prog w) c.A (.compStart (comp2 elt t1 i1 t2 i2 ifs scope pos) 0 (.ref it) (.ref acc) c.env) Rr s := by
  have loop : codeAny (model prog w) c.A (.compLoop (comp2 elt t1 i1 t2 i2 ifs scope pos) 0 (.ref it) (.ref acc) c.env) Rr s := by
    refine codeAny_loop rfl (fun n s => ∃ i ys m τ, i + n = xs.length ∧ Rel S0 ((it, o i) :: (acc, .list ys) :: c.st m τ) s ∧ CT2 prog w S0 c P t1 t2 i2 ifs elt K (xs.drop i) ys m τ) (fun n s3 hI => ?_) xs.length ⟨0, [], m, τ, by omega, R, h⟩
    obtain ⟨i, ys, m3, τ3, hn, R3, hT3⟩ := hI
    show wpAny _ _ ((compTurn (comp2 elt t1 i1 t2 i2 ifs scope pos) 0 (.ref it) (.ref acc) c.env).onRaise (fun x => do noteFrame x c.env; theTreesLotGoes x)) _ _ s3
    refine wpAny_noted ?_
    rw [compTurn_two0]
    refine wpAny_bind (wpAny_standAt (wpAny_bind ?_))
    cases hi : xs[i]? with
    | none =>
      have e : xs.drop i = [] := List.drop_eq_nil_of_le (by simpa using hi)
      rw [e] at hT3
      exact I.done c.hand R3 (I.mono hT3.1) hi _ _ fun s4 R4 => wpAny_pure (k ys m3 τ3 s4 R4 hT3.2)
    | some x =>
      obtain ⟨hlt, ex⟩ := List.getElem?_eq_some_iff.mp hi
      have e : xs.drop i = x :: xs.drop (i + 1) := by rw [List.drop_eq_getElem_cons hlt, ex]
      rw [e] at hT3
      refine I.next c.hand R3 (I.mono hT3.1) hi _ _ fun v s4 R4 hv => ?_
      refine wpAny_bind (I.owned t1 v R4 _ _ ?_)
      have toC : ∀ {m τ} , ((it, o (i + 1)) :: (acc, O.list ys) :: c.st m τ).Perm (((c.push (acc, .list ys)).push (it, o (i + 1))).st m τ) := fun {m τ} =>
        (List.Perm.cons _ (push_perm (p := (acc, O.list ys)))).trans push_perm
      refine wpAny_bind (Asg.get (hT3.2 (it, o (i + 1)) (acc, .list ys)) v hv s4 (R4.perm toC) _ _ fun m5 τ5 s5 R5 h5 => ?_)
      refine wpAny_bind (Op.get h5 s5 R5 _ _ fun v2 y τ6 s6 R6 hy h6 => ?_)
      obtain ⟨xs2, P2, I2, hP2, hP3, hT2⟩ := h6
      refine wpAny_bind (wpAny_standAt (wpAny_bind (wpAny_of_eq (hs2 v2) ?_)))
      refine wpAny_bind (wpAny_holding (I2 c.hand R6 hP2 hy _ _ fun it2 o2 s7 J R7 => ?_))
      refine wpAny_bind (wpAny_runOwn ?_)
      have back : ∀ {m τ}, ((it2, o2 0) :: ((c.push (acc, O.list ys)).push (it, o (i + 1))).st m τ).Perm ((it2, o2 0) :: (acc, O.list ys) :: (c.push (it, o (i + 1))).st m τ) := fun {m τ} =>
        .cons _ ((toC (m := m) (τ := τ)).symm.trans ((List.Perm.swap ..).trans (.cons _ push_perm)))
      refine comp_loop1 (c := c.push (it, o (i + 1))) J (R7.perm back) hT2 fun ys' m' τ' s8 R8 ⟨m'', τ'', hw, hT'⟩ => ?_
      refine wpAny_pure ⟨rfl, n - 1, by omega, i + 1, ys', m'', τ'', by omega, ?_, hT'⟩
      have R9 : Rel S0 ((acc, .list ys') :: (c.push (it, o (i + 1))).st m'' τ'') s8 := by
        have := hw.imp (c := (c.push (it, o (i + 1))).push (acc, .list ys')) s8 (R8.perm push_perm)
        exact this.perm push_perm.symm
      exact R9.perm ((List.Perm.cons _ push_perm.symm).trans (.swap ..))
  exact codeAny_compStart_list loop (I.self R _ _ loop)

end
end Mine
end

section
open PySem.Builtin
set_option maxRecDepth 100000
namespace Mine
/-- a set of texts that the call has made -/
noncomputable def SetIs (prog : Program) (w : World) (o : Obj) (ks : List Str) : Prop :=
  ∃ (es : Array (Int × Value)) (ep : Nat) (t : SetTable), o = ⟨.type "set", .none, .set es ep t, #[]⟩ ∧ ElemsOf (strKind prog w) es.toList ∧ (∃ ks', StrsAre (es.toList.map (·.2)) ks' ∧ ks'.Perm ks) ∧ t.fits es.size = true ∧ t.led = (!w.params.followText "set-order") ∧ (ks ≠ [] → t.plain = false) ∧ ks.Nodup
theorem lay_led (t : SetTable) (es : Array (Int × Value)) (h : Int) (x : Value) : (layNew t es h x).2.1.led = t.led := by
  unfold layNew
  split
  · unfold SetTable.orStandIn
    dsimp only
    split <;> rfl
  · rfl
theorem relay_led (t : SetTable) (es : Array (Int × Value)) (n : Nat) : (relayAll t es n).2.1.led = t.led ∧ (t.plain = false → (relayAll t es n).2.1.plain = false) := by
  unfold relayAll
  split
  · rename_i t' order hl
    have key : t'.led = t.led ∧ t'.plain = t.plain := by
      unfold SetTable.relaid SetTable.laid at hl
      simp only [Option.bind_eq_bind, Option.bind_eq_some_iff, Option.pure_def, Option.some.injEq] at hl
      obtain ⟨_, _, hl⟩ := hl
      injection hl with hl _
      rw [← hl]; exact ⟨rfl, rfl⟩
    dsimp only
    split
    · exact ⟨key.1, fun h => key.2.trans h⟩
    · exact ⟨rfl, fun _ => rfl⟩
  · exact ⟨rfl, fun _ => rfl⟩
theorem strs_perm {l l' : List Value} (h : l.Perm l') {ks : List Str} (hs : StrsAre l' ks) : ∃ ks', StrsAre l ks' ∧ ks'.Perm ks := by
  induction h generalizing ks with
  | nil => exact ⟨ks, hs, .refl _⟩
  | cons v _ ih =>
    cases hs with
    | cons x t h' => obtain ⟨ks', a, b⟩ := ih h'; exact ⟨x :: ks', .cons x t a, .cons _ b⟩
  | swap a b l =>
    cases hs with
    | cons x t h' => cases h' with | cons y u h'' => exact ⟨y :: x :: _, .cons y u (.cons x t h''), .swap ..⟩
  | trans _ _ ih1 ih2 =>
    obtain ⟨k1, a1, b1⟩ := ih2 hs
    obtain ⟨k2, a2, b2⟩ := ih1 a1
    exact ⟨k2, a2, b2.trans b1⟩
section
variable {prog : Program} {w : World} {A : Around} {E : Value → Shared → Prop} {s : Shared}
theorem set_new (a : Value) {Q₁ : Value → Shared → Prop}
    (h : Q₁ (.ref s.heap.objs.size) { s with heap := s.heap.push { cls := .type "set", dict := none, data := .set #[] 0 (.fresh 0 0 (!w.params.followText "set-order")) } }) :
    codeAny (model prog w) A (.call (.builtin "set.__new__") ⟨[.type "set", a], []⟩) (wants Q₁ E) s := by
  refine codeAny_of_tree ?_
  show wpAny _ A.in1 (do checkBuiltinCall "set.__new__" ⟨[.type "set", a], []⟩; again (.builtin "set.__new__" ⟨[.type "set", a], []⟩)) _ _ s
  refine wpAny_bind (wpAny_of_eq (F.newCall_set_1 a) (wpAny_pure ⟨plainId_quiet F.plain_set_new _, codeAny_builtin F.entry_set_new ?_⟩))
  rw [Around.under_plainId F.plain_set_new _]
  unfold Builtin.«set.__new__» Builtin.Frozenset.newClass
  have hsub := sub_set_self
  obtain ⟨hp, g, d, tk, os⟩ := s
  dsimp only
  wp_walk
  refine wpAny_askSetting (wpAny_pure ?_)
  dsimp only
  simp only [newObj]
  refine wpAny_bind (wpAny_alloc (wpAny_pure ?_))
  exact wpAny_pure h
theorem strs_mem : ∀ {l : List Value} {ks : List Str}, StrsAre l ks → ∀ x, x ∈ ks ↔ ∃ v ∈ l, Value.isStrOf x v = true
  | _, _, .nil, x => by simp
  | _, _, .cons y t h, x => by
    rw [List.mem_cons, strs_mem h x]
    constructor
    · rintro (rfl | ⟨v, a, b⟩)
      · exact ⟨_, .head _, by simp [Value.isStrOf]⟩
      · exact ⟨v, .tail _ a, b⟩
    · rintro ⟨v, a, b⟩
      rcases List.mem_cons.mp a with rfl | a
      · left; exact (by simpa [Value.isStrOf] using b : y = x).symm
      · exact .inr ⟨v, a, b⟩
theorem set_tail {g : Bool → Sem Unit} (hg : ∀ (b : Bool) (s₁ : Shared) (Q' : Unit → Shared → Prop), Q' () s₁ → wpAny (model prog w) A (g b) Q' E s₁)
    {d : Addr} {es : Array (Int × Value)} {ep : Nat} {t : SetTable} {ks : List Str} (ho : s.heap.get? d = some ⟨.type "set", .none, .set es ep t, #[]⟩)
    {es1 : Array (Int × Value)} {t2 : SetTable} (hel1 : ElemsOf (strKind prog w) es1.toList) (hk1 : ∃ k1, StrsAre (es1.toList.map (·.2)) k1 ∧ k1.Perm ks) (hnd : ks.Nodup) (hz : es1.size ≤ sizeLine)
    (hf2 : t2.fits es1.size = true) (hl : t2.led = (!w.params.followText "set-order")) (hp : t2.plain = false) {wasDummy : Bool} {R : Option Bool → Shared → Prop}
    (h : ∀ h' o', Heap.SameBut d s.heap h' → h'.get? d = some o' → SetIs prog w o' ks → R (some true) { s with heap := h' }) :
    wpAny (model prog w) A (do
        storeSet d es1 t2
        if (!wasDummy && t2.tooFull) = true then do
            g (relayAll t2 es1 (SetTable.grown es1.size)).2.2
            storeSet d (relayAll t2 es1 (SetTable.grown es1.size)).1 (relayAll t2 es1 (SetTable.grown es1.size)).2.1
            pure (some true)
          else pure (some true)) R E s := by
  refine wpAny_bind (wpAny_storeSet_of ho rfl ?_ hz)
  have hg1 := Heap.get?_update_self (Obj.putSet es1 t2) ho (by rw [putSet_of es1 t2 rfl]; rfl)
  rw [putSet_of es1 t2 rfl] at hg1
  have hsb1 := Heap.SameBut.update s.heap d (Obj.putSet es1 t2)
  split
  · have hp2 := relayAll_perm t2 es1 (SetTable.grown es1.size)
    have hf3 := relayAll_fits t2 es1 (SetTable.grown es1.size)
    obtain ⟨hl2, hq2⟩ := relay_led t2 es1 (SetTable.grown es1.size)
    generalize relayAll t2 es1 (SetTable.grown es1.size) = Rl at hp2 hf3 hl2 hq2 ⊢
    obtain ⟨es2, t3, gave2⟩ := Rl
    dsimp only at hp2 hf3 hl2 hq2 ⊢
    have hsz2 : es2.size = es1.size := by rw [← Array.length_toList, hp2.length_eq, Array.length_toList]
    refine wpAny_bind (hg _ _ _ ?_)
    refine wpAny_bind (wpAny_storeSet_of hg1 rfl ?_ (by rw [hsz2]; exact hz))
    have hg2 := Heap.get?_update_self (Obj.putSet es2 t3) hg1 (by rw [putSet_of es2 t3 rfl]; rfl)
    rw [putSet_of es2 t3 rfl] at hg2
    obtain ⟨k1, a1, b1⟩ := hk1
    obtain ⟨k2, a2, b2⟩ := strs_perm (hp2.map (·.2)) a1
    exact wpAny_pure (h _ _ (hsb1.trans (Heap.SameBut.update _ d _)) hg2 ⟨es2, _, t3, rfl, hel1.perm hp2, ⟨k2, a2, b2.trans b1⟩, hf3, hl2.trans hl, fun _ => hq2 hp, hnd⟩)
  · exact wpAny_pure (h _ _ hsb1 hg1 ⟨es1, _, t2, rfl, hel1, hk1, hf2, hl, fun _ => hp, hnd⟩)
theorem set_add {d : Addr} {o : Obj} {ks : List Str} {x : Str} {tk : Tok} {Q : Bool → Shared → Prop} (ho : s.heap.get? d = some o) (hS : SetIs prog w o ks) (hlen : ks.length < 1000)
    (h : ∀ b h' o', Heap.SameBut d s.heap h' → h'.get? d = some o' → SetIs prog w o' (if x ∈ ks then ks else ks ++ [x]) → Q b { s with heap := h', toks := s.toks + 1 }) : wpAny (model prog w) A (setAdd d (.str x tk)) Q E s := by
  obtain ⟨es, ep, t, rfl, hel, ⟨ks', hks, hp⟩, hf, hled, hpl, hnd⟩ := hS
  have hesz : es.size = ks.length := by
    have := hks.length
    rw [List.length_map, Array.length_toList] at this
    rw [this, hp.length_eq]
  have hb : es.size + 1 < scanBound := by rw [hesz]; unfold scanBound; omega
  unfold setAdd
  refine wpAny_holding (wpAny_bind (wpAny_pyHash_str ?_))
  have hkey : (strKind prog w).is x (.str x tk) = true := by simp [PySem.strKind, Value.isStrOf]
  have hsc : (Value.str x tk).scannable = true := rfl
  show wpAny (model prog w) A (setAddHashed d (.str x tk) ((strKind prog w).hash x)) Q E { s with toks := s.toks + 1 }
  unfold setAddHashed setAddHashedIn
  refine wpAny_holding (wpAny_bind (wpAny_setState_of (o := _) (s := { s with toks := s.toks + 1 }) ho rfl hf ?_))
  dsimp only
  rw [byScan_of hsc (by omega) hel]
  simp only [↓reduceIte]
  unfold setAddByScan
  refine wpAny_bind ?_
  refine wpAny_bind (wpAny_rule ?_)
  refine wpAny_bind (wpAny_setScan_of (s := { s with toks := s.toks + 1 }) hkey ho rfl hf hel ?_)
  have hmem : x ∈ ks ↔ ∃ e ∈ es.toList, (strKind prog w).is x e.2 = true := by
    rw [← hp.mem_iff, strs_mem hks]
    constructor
    · rintro ⟨v, a, b⟩; obtain ⟨e, he, rfl⟩ := List.mem_map.mp a; exact ⟨e, he, b⟩
    · rintro ⟨e, he, b⟩; exact ⟨e.2, List.mem_map_of_mem he, b⟩
  cases hr : List.findIdx? (fun e => (strKind prog w).is x e.2) es.toList with
  | some j =>
    dsimp only
    obtain ⟨hj, hpj, _⟩ := List.findIdx?_eq_some_iff_getElem.mp hr
    have hx : x ∈ ks := hmem.mpr ⟨_, List.getElem_mem hj, hpj⟩
    refine wpAny_pure (wpAny_pure ?_)
    have := h false s.heap _ (Heap.SameBut.refl d s.heap) ho (by rw [if_pos hx]; exact ⟨es, ep, t, rfl, hel, ⟨ks', hks, hp⟩, hf, hled, hpl, hnd⟩)
    exact this
  | none =>
    dsimp only
    have hx : ¬ x ∈ ks := fun hx => by
      obtain ⟨e, he, hq⟩ := hmem.mp hx
      have := List.findIdx?_eq_none_iff.mp hr e he
      rw [hq] at this; cases this
    rw [if_neg hx] at h
    have hgw : ∀ (b : Bool) {s₁ : Shared} {Q' : Unit → Shared → Prop}, Q' () s₁ → wpAny (model prog w) A (match b with | true => rule "set.scan.the-table-gave-way" | false => pure ()) Q' E s₁ :=
      fun b s₁ Q' hq => by cases b <;> first | exact wpAny_pure hq | exact wpAny_rule hq
    have hperm := layNew_perm t es ((strKind prog w).hash x) (.str x tk)
    have hfits := layNew_fits t es ((strKind prog w).hash x) (.str x tk)
    have hll := lay_led t es ((strKind prog w).hash x) (.str x tk)
    generalize hL : layNew t es ((strKind prog w).hash x) (.str x tk) = L at hperm hfits hll ⊢
    obtain ⟨es1, t1, wasDummy, gave⟩ := L
    dsimp only at hperm hfits hll ⊢
    rw [Array.toList_push] at hperm
    have hel1 : ElemsOf (strKind prog w) es1.toList := (hel.push hkey hsc).perm hperm
    have hsz1 : es1.size = ks.length + 1 := by rw [← Array.length_toList, hperm.length_eq, List.length_append, Array.length_toList, hesz]; rfl
    have hz1 : es1.size ≤ sizeLine := by rw [hsz1, sizeLine_eq]; omega
    have hk1 : ∃ k1, StrsAre (es1.toList.map (·.2)) k1 ∧ k1.Perm (ks ++ [x]) := by
      have h0 : StrsAre ((es.toList ++ [((strKind prog w).hash x, Value.str x tk)]).map (·.2)) (ks' ++ [x]) := by
        rw [List.map_append]
        have app : ∀ {l : List Value} {k : List Str}, StrsAre l k → StrsAre (l ++ [.str x tk]) (k ++ [x]) := by
          intro l k hh
          induction hh with
          | nil => exact .cons x tk .nil
          | cons y u _ ih => exact .cons y u ih
        exact app hks
      obtain ⟨k1, a, b⟩ := strs_perm (hperm.map (·.2)) h0
      exact ⟨k1, a, b.trans (hp.append_right _)⟩
    have hnd1 : (ks ++ [x]).Nodup := List.nodup_append.mpr ⟨hnd, by simp, fun a ha b hb => by obtain rfl := List.mem_singleton.mp hb; exact fun e => hx (e ▸ ha)⟩
    have fin : ∀ h' o', Heap.SameBut d s.heap h' → h'.get? d = some o' → SetIs prog w o' (ks ++ [x]) → Q true { s with heap := h', toks := s.toks + 1 } := fun h' o' a b q => h true h' o' a b q
    refine wpAny_bind (hgw _ ?_)
    split
    · refine wpAny_bind ?_
      rw [hashByValue_scannable 8 hsc]
      refine wpAny_pure ?_
      refine set_tail (s := { s with toks := s.toks + 1 }) (ks := ks ++ [x]) ?_ ho hel1 hk1 hnd1 hz1 (t2 := { t1 with plain := false }) (SetTable.fits_plain_off hfits) (hll.trans hled) rfl fun h' o' a b q => ?_
      · intro b s₁ Q' hq; cases b <;> first | exact wpAny_pure hq | exact wpAny_rule hq
      · dsimp only; exact wpAny_pure (fin h' o' a b q)
    · rename_i hpf
      refine wpAny_bind (wpAny_pure ?_)
      simp only [↓reduceIte]
      refine set_tail (s := { s with toks := s.toks + 1 }) (ks := ks ++ [x]) ?_ ho hel1 hk1 hnd1 hz1 (t2 := t1) hfits (hll.trans hled) (by simpa using hpf) fun h' o' a b q => ?_
      · intro b s₁ Q' hq; cases b <;> first | exact wpAny_pure hq | exact wpAny_rule hq
      · dsimp only; exact wpAny_pure (fin h' o' a b q)
end
/-- the texts, each once, as they first come -/
noncomputable def ddS (l : List Str) : List Str := l.foldl (fun ks x => if x ∈ ks then ks else ks ++ [x]) []
theorem ddS_snoc (l : List Str) (x : Str) : ddS (l ++ [x]) = if x ∈ ddS l then ddS l else ddS l ++ [x] := by unfold ddS; rw [List.foldl_append]; rfl
theorem ddS_len (l : List Str) : (ddS l).length ≤ l.length := by
  have key : ∀ (l ks : List Str), (l.foldl (fun ks x => if x ∈ ks then ks else ks ++ [x]) ks).length ≤ ks.length + l.length := by
    intro l
    induction l with
    | nil => intro ks; simp
    | cons x l ih =>
      intro ks
      rw [List.foldl_cons]
      split
      · have := ih ks; simp; omega
      · have := ih (ks ++ [x]); simp at this ⊢; omega
  have := key l []; simpa [ddS] using this
section
variable {prog : Program} {w : World} {A : Around} {E : Value → Shared → Prop} {s : Shared}
theorem set_loop {R : Result → Shared → Prop} {I : Addr} {fp wr : List Addr} {G : Array GenState → Array GenState → Prop} {P : Nat → Value → Prop} {St : Nat → Shared → Prop} (xs : List Str)
    (W : WalksS prog w A.in1 I fp wr G xs.length P St) (d : Addr) (hd : d ∉ fp) (hval : ∀ i v, P i v → ∃ x t, xs[i]? = some x ∧ v = .str x t) (hb : xs.length < 900) :
    ∀ (k i : Nat) (s : Shared) (o : Obj), xs.length - i = k → i ≤ xs.length → St i s → s.heap.get? d = some o → SetIs prog w o (ddS (xs.take i)) →
      (∀ s' o', Moved (d :: wr) G s s' → s'.heap.get? d = some o' → SetIs prog w o' (ddS xs) → R (.ok (.ret .none)) s') →
      codeAny (model prog w) A (.builtin "set.update.loop" ⟨[.ref d, .ref I], []⟩) R s := by
  have hdw : d ∉ wr := fun h => hd (W.sub _ h)
  have hsub : ∀ b ∈ wr, b ∈ d :: wr := fun b hb => List.mem_cons_of_mem _ hb
  intro k
  induction k with
  | zero =>
    intro i s o hk hi hst ho hS hR
    have hin : i = xs.length := by omega
    subst hin
    refine codeAny_builtin F.entry_set_update_loop ?_
    rw [Around.under_plainId F.plain_set_update_loop _]
    show wpAny _ A.in1 (pyNext (.ref I) >>= _) _ _ s
    refine wpAny_bind (W.done s _ _ hst fun s' hm => ?_)
    show wpAny _ A.in1 (ret Value.none) _ _ s'
    rw [List.take_length] at hS
    exact wpAny_pure (hR s' o (hm.mono hsub) (hm.heap d _ hdw ho) hS)
  | succ k ih =>
    intro i s o hk hi hst ho hS hR
    refine codeAny_builtin F.entry_set_update_loop ?_
    rw [Around.under_plainId F.plain_set_update_loop _]
    show wpAny _ A.in1 (pyNext (.ref I) >>= _) _ _ s
    refine wpAny_bind (W.item i s _ _ (by omega) hst fun v s' hP hst' hm => ?_)
    obtain ⟨x, t, hx, rfl⟩ := hval i v hP
    have ho' := hm.heap d _ hdw ho
    show wpAny _ A.in1 (holding [Value.str x t] (setAdd d (.str x t)) >>= _) _ _ s'
    have hl := ddS_len (xs.take i)
    rw [List.length_take] at hl
    refine wpAny_bind (wpAny_holding (set_add ho' hS (by omega) fun b h' o' hsb hg hS' => ?_))
    refine wpAny_pure ⟨plainId_quiet F.plain_set_update_loop _, ih (i + 1) _ o' (by omega) (by omega) (W.frame _ s' _ _ hst' (Nat.le_succ _) fun b hb o e => ?_) hg ?_ fun s'' o'' hm'' hg'' hS'' => ?_⟩
    · rw [hsb.2 b (fun h : b = d => hd (by rw [← h]; exact hb))]; exact e
    · rw [List.take_add_one, hx]
      show SetIs prog w o' (ddS (xs.take i ++ [x]))
      rw [ddS_snoc]; exact hS'
    · refine hR s'' o'' (Moved.trans W.gtrans ((hm.mono hsub).then_heap (Nat.le_succ _) fun b o hb e => ?_) hm'') hg'' hS''
      rw [hsb.2 b (fun h : b = d => hb (by rw [h]; exact List.mem_cons_self))]; exact e
end
end Mine
end

section
set_option maxRecDepth 100000
namespace Mine
section
variable {prog : Program} {w : World} {A : Around} {E : Value → Shared → Prop} {s : Shared}
theorem strs_at : ∀ {vs : List Value} {xs : List Str}, StrsAre vs xs → ∀ (i : Nat) (v : Value), vs[i]? = some v → ∃ x t, xs[i]? = some x ∧ v = .str x t
  | _, _, .nil, i, v, h => by simp at h
  | _, _, .cons x t hr, 0, v, h => by simp at h; exact ⟨x, t, rfl, h.symm⟩
  | _, _, .cons x t hr, i + 1, v, h => by
    simp only [List.getElem?_cons_succ] at h ⊢
    exact strs_at hr i v h
set_option maxHeartbeats 3200000 in
theorem call_set_strs {l : Addr} {items : Array Value} {xs : List Str} {Q : Value → Shared → Prop}
    (hh : A.handled = none) (hl : s.heap.IsList l items) (hi : StrsAre items.toList xs) (hb : xs.length < 900)
    (h : ∀ (h' : Heap) (tk : Nat) (o : Obj), h'.get? s.heap.objs.size = some o → SetIs prog w o (ddS xs) →
      (∀ b o, b < s.heap.objs.size → s.heap.get? b = some o → h'.get? b = some o) → Q (.ref s.heap.objs.size) { s with heap := h', toks := tk }) :
    wpAny (model prog w) A (call (.type "set") [.ref l]) Q E s := by
  obtain ⟨c, tl, hmro⟩ := F.called_set.mro
  have hmade := F.called_set.made
  have hsub := F.called_set.sub
  refine wpAny_call (codeAny_of_tree ?_)
  show wpAny _ _ (callAny (.type "set") _) _ _ _
  refine wpAny_pure ⟨Code.quiet_builtin _ (by decide +kernel), codeAny_builtin F.entry_type_call ?_⟩
  rw [Around.under_plain (weight_type_call_type "set" [.ref l] []) rfl]
  have h1 := F.called_set.notType
  have h2 := F.called_set.canCreate
  have hct := F.typeCall_set_1 (.ref l)
  repeat (any_goals (first | assumption | wp_step))
  let o0 : Obj := { cls := .type "set", dict := none, data := .set #[] 0 (.fresh 0 0 (!w.params.followText "set-order")) }
  refine codeAny_mono (set_new (.ref l) (E := E) (Q₁ := fun obj s₁ => obj = .ref s.heap.objs.size ∧ s₁ = { s with heap := s.heap.push o0 }) ⟨rfl, rfl⟩) fun r s₁ hr => ?_
  cases r with
  | error e => exact hr
  | ok fl =>
    cases fl with
    | next => exact hr.elim
    | brk => exact hr.elim
    | cont => exact hr.elim
    | ret obj =>
      obtain ⟨rfl, rfl⟩ := hr
      have hS : (s.heap.push o0).get? s.heap.objs.size = some o0 := Heap.get?_push_size _ rfl
      have hT : Shared.TypeIs { s with heap := s.heap.push o0 } (.ref s.heap.objs.size) "set" := ⟨_, hS, rfl⟩
      have hli := F.called_set.init.lookup
      have hbi := F.called_set.init.bind (.ref s.heap.objs.size)
      repeat (any_goals (first | assumption | wp_step))
      refine codeAny_mono (codeAny_call_builtin (R := wants (fun r s₂ => r = .none ∧ ∃ h' tk o, s₂ = { s with heap := h', toks := tk } ∧ h'.get? s.heap.objs.size = some o ∧ SetIs prog w o (ddS xs) ∧
          (∀ b o, b < s.heap.objs.size → s.heap.get? b = some o → h'.get? b = some o)) E) F.called_set.init.plain F.entry_set_init (check_set_init_1 hT ?_)) fun r₂ s₂ hr₂ => ?_
      · obtain ⟨ol, hol, hcl, nl, hdl⟩ := hl
        obtain ⟨ocls, odict, odata, oslots⟩ := ol
        simp only at hcl hdl
        subst hcl; subst hdl
        have hol' : (s.heap.push o0).get? l = some { cls := .type "list", dict := odict, data := .seq items nl, slots := oslots } := Heap.get?_push_of_some _ hol
        have hsls := F.sub_list_set
        have hslf := F.sub_list_frozenset
        have hne : (Value.type "list" == Value.type "dict") = false := by decide
        have hl1 : (s.heap.push o0).IsList l items := ⟨_, hol', rfl, nl, rfl⟩
        unfold Builtin.«set.__init__» noKeywords Builtin.Frozenset.updateFrom
        generalize hPI : pyIter = PI
        wp_walk
        subst hPI
        refine wpAny_pyIter_list hl1 ?_
        refine wpAny_bind (wpAny_runValue ?_)
        have hlS : l < s.heap.objs.size := Heap.lt_size hol
        have hh3 : A.in1.in1.in1.handled = none := by simp [hh]
        have hneI : l ≠ (s.heap.push o0).objs.size := by
          rw [Heap.size_push]; exact Nat.ne_of_lt (Nat.lt_succ_of_lt hlS)
        have hSf : s.heap.objs.size ∉ [(s.heap.push o0).objs.size, l] := by
          rw [Heap.size_push]; simp only [List.mem_cons, List.not_mem_nil, or_false, not_or]
          exact ⟨Nat.ne_of_lt (Nat.lt_succ_self _), Nat.ne_of_gt hlS⟩
        have hlen : xs.length = items.size := by rw [← hi.length, Array.length_toList]
        have hval : ∀ (i : Nat) (v : Value), items[i]? = some v → ∃ x t, xs[i]? = some x ∧ v = .str x t := fun i v hv => strs_at hi i v (by rw [Array.getElem?_toList]; exact hv)
        have W := (Walks.list (prog := prog) (w := w) hh3 (s.heap.push o0).objs.size l hneI items).toS
        rw [← hlen] at W
        refine set_loop xs W s.heap.objs.size hSf hval hb (xs.length - 0) 0 _ o0 (by omega) (Nat.zero_le _)
          ⟨⟨_, Heap.get?_push_size _ rfl, rfl, rfl⟩, (hl1.push _)⟩ (Heap.get?_push_of_some _ hS) ?hS0 ?hR
        case hS0 =>
          exact ⟨#[], 0, _, rfl, fun e he => by simp at he, ⟨[], .nil, .refl _⟩, by rfl, rfl, fun e => (e rfl).elim, List.nodup_nil⟩
        case hR =>
          intro s' o' hm hg' hS'
          obtain ⟨h', g', d', tk', os'⟩ := s'
          have eg : g' = s.gens := hm.gens
          have ed : d' = s.drawn := hm.drawn
          have eo : os' = s.os := hm.os
          subst eg; subst ed; subst eo
          show wpAny _ _ _ _ _ _
          refine wpAny_pure ?_
          show wpAny _ _ (ret Value.none) _ _ _
          refine wpAny_pure ⟨rfl, h', tk', o', rfl, hg', hS', fun b o hb e => ?_⟩
          have hb1 : b ≠ s.heap.objs.size := Nat.ne_of_lt hb
          have hb2 : b ≠ (s.heap.push o0).objs.size := by
            rw [Heap.size_push]; exact Nat.ne_of_lt (Nat.lt_succ_of_lt hb)
          exact hm.heap b o (by simp only [List.mem_cons, List.not_mem_nil, or_false, not_or]; exact ⟨hb1, hb2⟩) (Heap.get?_push_of_some _ (Heap.get?_push_of_some _ e))
      · cases r₂ with
        | error e => exact hr₂
        | ok fl₂ =>
          cases fl₂ with
          | next => exact hr₂.elim
          | brk => exact hr₂.elim
          | cont => exact hr₂.elim
          | ret r =>
            obtain ⟨rfl, h', tk, o', rfl, hg', hS', hk'⟩ := hr₂
            repeat (any_goals (first | assumption | wp_step))
            exact h _ _ _ hg' hS' hk'
end
section
variable {prog : Program} {w : World} {S0 : Shared} {c : Cx} {m : Ms} {σ : Sto} {K : V → Sto → Prop}
theorem Rel.anew {τ : Sto} {s : Shared} {h' : Heap} {a : Addr} {o : Obj} {x : O} (R : Rel S0 τ s) (k : ∀ b o, b < s.heap.objs.size → s.heap.get? b = some o → h'.get? b = some o) (ha : s.heap.objs.size ≤ a) (ho : h'.get? a = some o) (hx : OR x o) (t : Nat) (d : Drawn) :
    Rel S0 ((a, x) :: τ) { s with heap := h', toks := t, drawn := d } := by
  have k' : ∀ b o, s.heap.get? b = some o → h'.get? b = some o := fun b o e => k b o (Heap.lt_size e) e
  have R1 := (R.grow k' t).draws d
  refine ⟨R1.gens, R1.os, R1.keep, ?_, fun p hp => ?_⟩
  · rw [List.map_cons, List.nodup_cons]
    refine ⟨fun hm => ?_, R1.nodup⟩
    obtain ⟨p, hp, e⟩ := List.mem_map.mp hm
    have := R.lt hp
    rw [e] at this; exact absurd this (Nat.not_lt.mpr ha)
  · rcases List.mem_cons.mp hp with rfl | hp
    · refine ⟨?_, o, ho, hx⟩
      cases e : S0.heap.get? a with
      | none => rfl
      | some ob => exact absurd (Heap.lt_size (R.keep _ _ e)) (Nat.not_lt.mpr ha)
    · exact R1.objs p hp
/-- set(a list of texts) -/
theorem cal_set {a : Addr} {xs : List Str} (ha : (a, O.list (xs.map .str)) ∈ c.st m σ) (hb : xs.length < 900) (h : ∀ d o, SetIs prog w o (ddS xs) → K (.ref d) ((d, .obj o) :: σ)) : Cal prog w S0 c m σ (.abs (.type "set")) [.ref a] [] K := cal_ty fun vs hv s R Q E k => by
  obtain ⟨v, rfl, rfl⟩ := hv.one
  obtain ⟨us, n, hl, hz⟩ := list_at R ha
  refine call_set_strs c.hand hl.isList (strs_of hz) hb fun h' tk o hg hS hk => ?_
  exact k _ (.ref s.heap.objs.size) _ _ (st_new _ (R.anew (x := .obj o) hk (Nat.le_refl _) hg rfl tk s.drawn)) rfl (h _ o hS)
end
end Mine
end

section
set_option maxRecDepth 100000
namespace Mine
theorem slot_set_iter : Slot "set" "__iter__" "set.__iter__" :=
  .of (owner := "set") (n := "__iter__") (by rw [typeLookup_type, builtinLookup_eq_fast]; kernel_rfl) (by decide +kernel) (by decide +kernel) (by decide +kernel)
    (by first | exact .inl (by decide +kernel) | exact .inr (by decide +kernel)) (by rw [isSubtype_type]; kernel_rfl)
theorem entry_set_iter : entryFor table "set.__iter__" = some Builtin.«frozenset.__iter__» := entryFor_alias (id' := "frozenset.__iter__") (by kernel_rfl) rfl (by decide +kernel) (by kernel_rfl)
theorem args_set_iter (a : Value) : argsOk "set.__iter__" ⟨[a], []⟩ := by unfold argsOk; kernel_rfl
theorem slot_si_next : Slot "set_iterator" "__next__" "set_iterator.__next__" :=
  .of (owner := "set_iterator") (n := "__next__") (by rw [typeLookup_type, builtinLookup_eq_fast]; kernel_rfl) (by decide +kernel) (by decide +kernel) (by decide +kernel)
    (by first | exact .inl (by decide +kernel) | exact .inr (by decide +kernel)) (by rw [isSubtype_type]; kernel_rfl)
theorem entry_si_next : entryFor table "set_iterator.__next__" = some Builtin.«set_iterator.__next__» := entryFor_of_tree (by kernel_rfl)
theorem args_si_next (a : Value) : argsOk "set_iterator.__next__" ⟨[a], []⟩ := by unfold argsOk; kernel_rfl
theorem slot_si_iter : Slot "set_iterator" "__iter__" "set_iterator.__iter__" :=
  .of (owner := "set_iterator") (n := "__iter__") (by rw [typeLookup_type, builtinLookup_eq_fast]; kernel_rfl) (by decide +kernel) (by decide +kernel) (by decide +kernel)
    (by first | exact .inl (by decide +kernel) | exact .inr (by decide +kernel)) (by rw [isSubtype_type]; kernel_rfl)
theorem nolen_si : typeLookup (.type "set_iterator") "__len__" = pure .none := by rw [typeLookup_type, builtinLookup_eq_fast]; kernel_rfl
theorem hint_si : typeLookup (.type "set_iterator") "__length_hint__" = pure (some (.builtin "set_iterator.__length_hint__")) := by rw [typeLookup_type, builtinLookup_eq_fast]; kernel_rfl
theorem erase_perm {α : Type} : ∀ {l : List α} {i : Nat} (h : i < l.length), (l[i] :: l.eraseIdx i).Perm l
  | x :: l, 0, _ => .refl _
  | x :: l, i + 1, h => by
    rw [List.eraseIdx_cons_succ, List.getElem_cons_succ]
    exact (List.Perm.swap ..).trans (.cons _ (erase_perm (by simpa using h)))
section
variable {M : Model} {A : Around} {E : Value → Shared → Prop} {s : Shared}
theorem wp_choose {src : Source} {n : Nat} {Q : Nat → Shared → Prop} (hn : 0 < n) (h : ∀ i, i < n → Q i { s with drawn := s.drawn.bump src }) : wpAny M A (choose src n) Q E s := fun Γ p hΓ => by
  exact ⟨Nat.ne_of_gt hn, h _ (Nat.mod_lt _ hn)⟩
theorem wp_drawOrder {α : Type} : ∀ (n : Nat) (xs : List α) (s : Shared) {Q : List α → Shared → Prop}, xs.length ≤ n → (∀ l d, l.Perm xs → Q l { s with drawn := d }) → wpAny M A (drawOrder n xs) Q E s
  | 0, xs, s, Q, hn, h => by
    obtain rfl := List.length_eq_zero_iff.mp (Nat.le_zero.mp hn)
    unfold drawOrder
    exact wpAny_pure (h [] s.drawn (.refl _))
  | n + 1, [], s, Q, hn, h => by
    unfold drawOrder
    exact wpAny_pure (h [] s.drawn (.refl _))
  | n + 1, x :: xs, s, Q, hn, h => by
    unfold drawOrder
    refine wpAny_bind (wp_choose (by simp) fun i hi => ?_)
    rw [List.getElem?_eq_getElem hi]
    refine wpAny_bind (wp_drawOrder n _ _ (by rw [List.length_eraseIdx]; split <;> simp at hn hi ⊢ <;> omega) fun l d hp => ?_)
    refine wpAny_pure (h _ d ?_)
    exact (List.Perm.cons _ hp).trans (erase_perm hi)
end
theorem pick_go {α : Type} (next : Nat → Nat) : ∀ (fuel k : Nat) (left : List α) (out : Array α), left.length ≤ fuel → (pickOrder.go next fuel k left out).toList.Perm (out.toList ++ left)
  | 0, k, left, out, h => by
    obtain rfl := List.length_eq_zero_iff.mp (Nat.le_zero.mp h)
    unfold pickOrder.go; simp
  | fuel + 1, k, left, out, h => by
    unfold pickOrder.go
    split
    · rename_i x hx
      obtain ⟨hlt, e⟩ := List.getElem?_eq_some_iff.mp hx
      have hl : (left.eraseIdx (next k % left.length)).length ≤ fuel := by rw [List.length_eraseIdx, if_pos hlt]; omega
      refine (pick_go next fuel (k + 1) _ _ hl).trans ?_
      rw [Array.toList_push, List.append_assoc]
      refine List.Perm.append_left _ ?_
      rw [← e]
      exact erase_perm hlt
    · rename_i hx
      have hz : left.length = 0 := by
        rcases Nat.eq_zero_or_pos left.length with h0 | h0
        · exact h0
        · have := Nat.mod_lt (next k) h0
          rw [List.getElem?_eq_getElem this] at hx; cases hx
      rw [List.length_eq_zero_iff.mp hz, List.append_nil]
theorem pick_perm {α : Type} (next : Nat → Nat) (xs : Array α) : (pickOrder next xs).toList.Perm xs.toList := by
  unfold pickOrder
  have := pick_go next xs.size 0 xs.toList #[] (by simp)
  simpa using this

/-- the iterator of a set -/
noncomputable def siO (first : Value) (i : Nat) (x : Value) (n ep : Nat) : Obj := ⟨.type "set_iterator", .none, .fields #[first, rawInt i, x, rawInt n, rawInt ep], #[]⟩
section
variable {prog : Program} {w : World} {A : Around} {E : Value → Shared → Prop} {s : Shared}
/-- what the places of a set tell, one by one -/
structure Nx (prog : Program) (w : World) (d : Addr) (o : Obj) (ep : Nat) (vals : List Value) (sl : Nat → Nat) : Prop where
  item : ∀ {A : Around} {E : Value → Shared → Prop} {s : Shared} {Q : Option (Value × Nat) → Shared → Prop} (i : Nat) (v : Value), s.heap.get? d = some o → vals[i]? = some v → Q (some (v, sl (i + 1))) s → wpAny (model prog w) A (setNext d (sl i) i ep) Q E s
  done : ∀ {A : Around} {E : Value → Shared → Prop} {s : Shared} {Q : Option (Value × Nat) → Shared → Prop}, s.heap.get? d = some o → Q .none s → wpAny (model prog w) A (setNext d (sl vals.length) vals.length ep) Q E s
theorem nx_text {d : Addr} {es : Array (Int × Value)} {ep : Nat} {t : SetTable} (hf : t.fits es.size = true) (hb : w.params.followText "set-order" = true) :
    ∃ vals : List Value, vals.Perm (es.toList.map (·.2)) ∧ Nx prog w d ⟨.type "set", .none, .set es ep t, #[]⟩ ep vals (fun _ => 0) := by
  have hp := pick_perm (w.params.setOrder d ep) es
  generalize hq : pickOrder (w.params.setOrder d ep) es = q at hp
  have key : ∀ {A : Around} {E : Value → Shared → Prop} {s : Shared} {Q : Option (Value × Nat) → Shared → Prop} (i : Nat), s.heap.get? d = some ⟨.type "set", .none, .set es ep t, #[]⟩ → Q (q[i]?.map fun e => (e.2, 0)) s → wpAny (model prog w) A (setNext d 0 i ep) Q E s := fun {A E s Q} i ho h => by
    unfold setNext
    refine wpAny_bind (wpAny_setState_of ho rfl hf ?_)
    dsimp only
    unfold setsByText
    refine wpAny_bind (wpAny_bind (wpAny_askSetting (wpAny_pure ?_)))
    show wpAny _ _ (if (w.params.followText "set-order") = true then _ else _) _ _ s
    rw [if_pos hb]
    rw [if_neg (by simp)]
    unfold setWalk
    refine wpAny_bind (wpAny_bind (wpAny_setState_of ho rfl hf ?_))
    dsimp only
    unfold setsByText
    refine wpAny_bind (wpAny_bind (wpAny_askSetting (wpAny_pure ?_)))
    show wpAny _ _ (if (w.params.followText "set-order") = true then _ else _) _ _ s
    rw [if_pos hb]
    refine wpAny_bind (wpAny_askSetting (wpAny_pure ?_))
    show wpAny _ _ (pure ((pickOrder (w.params.setOrder d ep) es)[i]?.map fun e => (e.2, 0))) Q E s
    rw [hq]
    exact wpAny_pure h
  refine ⟨q.toList.map (·.2), hp.map _, fun {A E s Q} i v ho hv h => key i ho ?_, fun {A E s Q} ho h => key _ ho ?_⟩
  · rw [List.getElem?_map, Array.getElem?_toList] at hv
    obtain ⟨e, he, rfl⟩ := Option.map_eq_some_iff.mp hv
    rw [he]; exact h
  · rw [List.length_map, Array.length_toList, Array.getElem?_eq_none (Nat.le_refl _)]; exact h
end
end Mine
end

section
set_option maxRecDepth 100000
namespace Mine
theorem entry_si_iter : entryFor table "set_iterator.__iter__" = some Builtin.«dict_keyiterator.__iter__» :=
  entryFor_alias (id' := "dict_keyiterator.__iter__") (by kernel_rfl) rfl (by decide +kernel) (by kernel_rfl)
theorem args_si_iter (a : Value) : argsOk "set_iterator.__iter__" ⟨[a], []⟩ := by unfold argsOk; kernel_rfl
section
variable {prog : Program} {w : World} {A : Around} {E : Value → Shared → Prop} {s : Shared}
theorem below_one (j x : Nat) : SetTable.below #[j] x = if j < x then 1 else 0 := by
  show SetTable.below.go #[j] x 1 0 1 = _
  unfold SetTable.below.go
  rw [if_pos (by decide)]
  show (if j < x then SetTable.below.go #[j] x 0 1 1 else SetTable.below.go #[j] x 0 0 0) = _
  split <;> rfl
theorem nx_few {d : Addr} {es : Array (Int × Value)} {ep : Nat} {t : SetTable} (hf : t.fits es.size = true) (hb : w.params.followText "set-order" = false) (hl : t.led = true) (hsz : es.size ≤ 1) :
    ∃ sl : Nat → Nat, sl 0 = 0 ∧ Nx prog w d ⟨.type "set", .none, .set es ep t, #[]⟩ ep (es.toList.map (·.2)) sl := by
  have hps : t.place.size = es.size := by simp only [SetTable.fits, Bool.and_eq_true, beq_iff_eq] at hf; exact hf.1
  have key : ∀ {A : Around} {E : Value → Shared → Prop} {s : Shared} {Q : Option (Value × Nat) → Shared → Prop} (slot i : Nat), s.heap.get? d = some ⟨.type "set", .none, .set es ep t, #[]⟩ →
      Q (match es[SetTable.below t.place slot]?, t.place[SetTable.below t.place slot]? with | some (_, x), some j => some (x, j + 1) | _, _ => .none) s → wpAny (model prog w) A (setNext d slot i ep) Q E s := fun {A E s Q} slot i ho h => by
    unfold setNext
    refine wpAny_bind (wpAny_setState_of ho rfl hf ?_)
    dsimp only
    unfold setsByText
    refine wpAny_bind (wpAny_bind (wpAny_askSetting (wpAny_pure ?_)))
    show wpAny _ _ (if (w.params.followText "set-order") = true then _ else _) _ _ s
    rw [if_neg (by rw [hb]; decide)]
    have hd : (!t.plain && decide (es.size > 1)) = false := by rw [decide_eq_false (by omega), Bool.and_false]
    refine wpAny_ite_split (fun h' => absurd h' (by show ¬ ((!t.plain && decide (es.size > 1)) = true); rw [hd]; decide)) (fun _ => ?_)
    have hm : (!t.led && !es.isEmpty) = false := by rw [hl]; rfl
    refine wpAny_bind (wpAny_ite_split (fun h' => absurd h' (by show ¬ ((!t.led && !es.isEmpty) = true); rw [hm]; decide)) (fun _ => wpAny_pure ?_))
    exact wpAny_pure h
  rcases Nat.eq_zero_or_pos es.size with h0 | h0
  · refine ⟨fun _ => 0, rfl, fun {A E s Q} i v ho hv h => ?_, fun {A E s Q} ho h => key _ _ ho ?_⟩
    · have : es.toList = [] := by rw [← List.length_eq_zero_iff, Array.length_toList]; exact h0
      rw [this] at hv; cases hv
    · rw [Array.getElem?_eq_none (by omega)]; exact h
  · have h1 : es.size = 1 := by omega
    obtain ⟨e, he⟩ : ∃ e, es = #[e] := by
      obtain ⟨l⟩ := es
      have : l.length = 1 := h1
      obtain ⟨e, rfl⟩ := List.length_eq_one_iff.mp this
      exact ⟨e, rfl⟩
    obtain ⟨j, hj⟩ : ∃ j, t.place = #[j] := by
      have : t.place.size = 1 := by omega
      cases hp : t.place with
      | mk l =>
        rw [hp] at this
        obtain ⟨e, rfl⟩ := List.length_eq_one_iff.mp this
        exact ⟨e, rfl⟩
    refine ⟨fun i => if i = 0 then 0 else j + 1, rfl, fun {A E s Q} i v ho hv h => key _ _ ho ?_, fun {A E s Q} ho h => key _ _ ho ?_⟩
    · subst he
      have hi : i = 0 := by
        have := (List.getElem?_eq_some_iff.mp hv).1
        simp at this; exact this
      subst hi
      rw [hj, if_pos rfl, below_one, if_neg (Nat.not_lt_zero _)]
      have : v = e.2 := by simpa using hv.symm
      subst this
      exact h
    · subst he
      rw [hj]
      show Q (match #[e][SetTable.below #[j] (if 1 = 0 then 0 else j + 1)]?, #[j][SetTable.below #[j] (if 1 = 0 then 0 else j + 1)]? with | some (_, x), some j => some (x, j + 1) | _, _ => .none) s
      rw [if_neg (by decide), below_one, if_pos (Nat.lt_succ_self _)]
      exact h

/-- the walk over a set whose places tell -/
theorem walks_nx {I d : Addr} {es : Array (Int × Value)} {ep : Nat} {t : SetTable} {vals : List Value} {sl : Nat → Nat} (hf : t.fits es.size = true) (hn : vals.length = es.size) (hne : I ≠ d) (hh : A.handled = .none)
    (N : Nx prog w d ⟨.type "set", .none, .set es ep t, #[]⟩ ep vals sl) :
    WalksS prog w A I [I, d] [I] (fun a b => b = a) vals.length (fun i v => vals[i]? = some v) (fun i s => s.heap.get? I = some (siO (rawInt (sl i)) i (.ref d) es.size ep) ∧ s.heap.get? d = some ⟨.type "set", .none, .set es ep t, #[]⟩) where
  sub := fun b hb => by simp at hb; simp [hb]
  grefl := fun _ => rfl
  gtrans := fun _ _ _ h1 h2 => h2.trans h1
  frame := fun i s h' tk st htk hk => ⟨hk I (by simp) _ st.1, hk d (by simp) _ st.2⟩
  item := fun i s Q E hi st hQ => by
    obtain ⟨hI, hd⟩ := st
    have hT : s.TypeIs (.ref I) "set_iterator" := ⟨_, hI, rfl⟩
    obtain ⟨v, hv⟩ : ∃ v, vals[i]? = some v := ⟨_, List.getElem?_eq_getElem hi⟩
    unfold pyNext
    refine wpAny_bind (wpAny_attempt (wpAny_callSpecial?_slot (name := Str.ofString "__next__") hT slot_si_next (wpAny_call_entry slot_si_next hT entry_si_next ?_ (args_si_next _))))
    unfold Builtin.«set_iterator.__next__»
    refine wpAny_bind (m := slotArgs "__next__" 0 _) (wpAny_pure ?_)
    refine wpAny_bind (wpAny_fieldsOf hI rfl ?_)
    show wpAny (model prog w) A.in1 (setEntries d >>= _) _ _ s
    refine wpAny_bind (wpAny_setEntries_of hd rfl hf ?_)
    refine wpAny_ite_split (fun h' => absurd h' (by simp)) (fun _ => ?_)
    show wpAny (model prog w) A.in1 (setNext d (sl i : Int).toNat (i : Int).toNat (ep : Int).toNat >>= _) _ _ s
    rw [Int.toNat_natCast, Int.toNat_natCast, Int.toNat_natCast]
    refine wpAny_bind (N.item i v hd hv ?_)
    show wpAny (model prog w) A.in1 (setField (.ref I) 0 (rawInt (sl (i + 1))) >>= fun _ => setField (.ref I) 1 (rawInt ((i : Int) + 1)) >>= fun _ => ret v) _ _ s
    refine wpAny_bind (wpAny_setField_rec hI (by simp) fun h1 hI1 hs1 => ?_)
    refine wpAny_bind (wpAny_setField_rec hI1 (by simp) fun h2 hI2 hs2 => ?_)
    refine wpAny_pure ⟨v, rfl, wpAny_pure (hQ v _ hv ⟨?_, ?_⟩ ⟨fun b o hb e => ?_, rfl, rfl, rfl, Nat.le_refl _⟩)⟩
    · exact hI2
    · exact ((hs1.trans hs2).2 d (Ne.symm hne)).trans hd
    · exact ((hs1.trans hs2).2 b (fun e => hb (by simp [e]))).trans e
  done := fun s Q E st hQ => by
    obtain ⟨hI, hd⟩ := st
    have hT : s.TypeIs (.ref I) "set_iterator" := ⟨_, hI, rfl⟩
    unfold pyNext
    refine wpAny_bind (wpAny_attempt (wpAny_callSpecial?_slot (name := Str.ofString "__next__") hT slot_si_next (wpAny_call_entry slot_si_next hT entry_si_next ?_ (args_si_next _))))
    unfold Builtin.«set_iterator.__next__»
    refine wpAny_bind (m := slotArgs "__next__" 0 _) (wpAny_pure ?_)
    refine wpAny_bind (wpAny_fieldsOf hI rfl ?_)
    show wpAny (model prog w) A.in1 (setEntries d >>= _) _ _ s
    refine wpAny_bind (wpAny_setEntries_of hd rfl hf ?_)
    refine wpAny_ite_split (fun h' => absurd h' (by simp)) (fun _ => ?_)
    show wpAny (model prog w) A.in1 (setNext d (sl vals.length : Int).toNat (vals.length : Int).toNat (ep : Int).toNat >>= _) _ _ s
    rw [Int.toNat_natCast, Int.toNat_natCast, Int.toNat_natCast]
    refine wpAny_bind (N.done hd ?_)
    show wpAny (model prog w) A.in1 (setField (.ref I) 2 .none >>= fun _ => _) _ _ s
    refine wpAny_bind (wpAny_setField_rec hI (by simp) fun h1 hI1 hs1 => ?_)
    show wpAny _ _ (newExc (.type "StopIteration") [] >>= _) _ _ _
    refine wpAny_bind ?_
    simp only [newExc, newTuple]
    refine wpAny_bind (wpAny_newObj_type ?_ (by size_fits))
    refine wpAny_bind (m := firstArgMember _ _) (wpAny_of_eq (a := Value.none) (by first | rfl | (simp only [firstArgMember]; rfl)) ?_)
    refine wpAny_newObj_type ?_ (by size_fits)
    simp only [raiseNew]
    refine wpAny_bind (wpAny_handled ?_)
    rw [show A.in1.handled = none from hh]
    refine wpAny_bind (wpAny_pure (wpAny_throw ?_))
    refine wpAny_bind (wpAny_isInstance (T := "StopIteration") (b := true) ⟨_, Heap.get?_push_size _ rfl, rfl⟩ isSubtype_stop ?_)
    exact wpAny_pure (hQ _ ⟨fun b o hb e => Heap.get?_push_of_some _ (Heap.get?_push_of_some _ ((hs1.2 b (fun e => hb (by simp [e]))).trans e)), rfl, rfl, rfl, Nat.le_refl _⟩)
  self := fun i s Q E st hQ => by
    have hT : s.TypeIs (.ref I) "set_iterator" := ⟨_, st.1, rfl⟩
    refine wpAny_pyIter_slot hT slot_si_iter (wpAny_call_entry slot_si_iter hT entry_si_iter ?_ (args_si_iter _))
    show wpAny _ _ (ret (.ref I)) _ _ s
    exact wpAny_pure ⟨_, rfl, "set_iterator", _, hT, slot_si_next.lookup, hQ⟩
end
end Mine
end

section
set_option maxRecDepth 100000
namespace Mine
noncomputable def placesO (pl : List Nat) : Obj := ⟨.type "tuple", .none, .seq (pl.map fun (i : Nat) => rawInt i).toArray 0, #[]⟩
section
variable {prog : Program} {w : World} {A : Around} {E : Value → Shared → Prop} {s : Shared}
/-- the walk over a set in a drawn order -/
theorem walks_drawn {I d T : Addr} {es : Array (Int × Value)} {ep : Nat} {t : SetTable} {pl : List Nat} (hf : t.fits es.size = true) (hpl : ∀ p ∈ pl, p < es.size) (h1 : I ≠ d) (h2 : I ≠ T) (hh : A.handled = .none) :
    WalksS prog w A I [I, d, T] [I] (fun a b => b = a) pl.length (fun i v => (pl.map fun p => ((es[p]?).map (·.2)).getD .none)[i]? = some v)
      (fun i s => s.heap.get? I = some (siO (.ref T) i (.ref d) es.size ep) ∧ s.heap.get? d = some ⟨.type "set", .none, .set es ep t, #[]⟩ ∧ s.heap.get? T = some (placesO pl)) where
  sub := fun b hb => by simp at hb; simp [hb]
  grefl := fun _ => rfl
  gtrans := fun _ _ _ h1 h2 => h2.trans h1
  frame := fun i s h' tk st htk hk => ⟨hk I (by simp) _ st.1, hk d (by simp) _ st.2.1, hk T (by simp) _ st.2.2⟩
  item := fun i s Q E hi st hQ => by
    obtain ⟨hI, hd, hTp⟩ := st
    have hT : s.TypeIs (.ref I) "set_iterator" := ⟨_, hI, rfl⟩
    have hlt := hpl _ (List.getElem_mem hi)
    unfold pyNext
    refine wpAny_bind (wpAny_attempt (wpAny_callSpecial?_slot (name := Str.ofString "__next__") hT slot_si_next (wpAny_call_entry slot_si_next hT entry_si_next ?_ (args_si_next _))))
    unfold Builtin.«set_iterator.__next__»
    refine wpAny_bind (m := slotArgs "__next__" 0 _) (wpAny_pure ?_)
    refine wpAny_bind (wpAny_fieldsOf hI rfl ?_)
    show wpAny (model prog w) A.in1 (setEntries d >>= _) _ _ s
    refine wpAny_bind (wpAny_setEntries_of hd rfl hf ?_)
    refine wpAny_ite_split (fun h' => absurd h' (by simp)) (fun _ => ?_)
    show wpAny (model prog w) A.in1 (seqItems? (.ref T) >>= _) _ _ s
    refine wpAny_bind (wpAny_seqItems hTp rfl ?_)
    have hg : (pl.map fun (i : Nat) => rawInt i).toArray[(i : Int).toNat]? = some (rawInt pl[i]) := by rw [Int.toNat_natCast]; simp [List.getElem?_eq_getElem hi]
    simp only [hg]
    show wpAny (model prog w) A.in1 (setNextDrawn d (pl[i] : Int).toNat (ep : Int).toNat >>= _) _ _ s
    rw [Int.toNat_natCast, Int.toNat_natCast]
    unfold setNextDrawn
    refine wpAny_bind (wpAny_bind (wpAny_setState_of hd rfl hf ?_))
    dsimp only
    refine wpAny_ite_split (fun h' => absurd h' (by simp)) (fun _ => ?_)
    rw [Array.getElem?_eq_getElem hlt]
    refine wpAny_pure ?_
    show wpAny (model prog w) A.in1 (setField (.ref I) 1 (rawInt ((i : Int) + 1)) >>= fun _ => ret es[pl[i]].2) _ _ s
    refine wpAny_bind (wpAny_setField_rec hI (by simp) fun h1' hI1 hs1 => ?_)
    refine wpAny_pure ⟨_, rfl, wpAny_pure (hQ _ _ ?_ ⟨hI1, (hs1.2 d (Ne.symm h1)).trans hd, (hs1.2 T (Ne.symm h2)).trans hTp⟩ ⟨fun b o hb e => (hs1.2 b (fun e => hb (by simp [e]))).trans e, rfl, rfl, rfl, Nat.le_refl _⟩)⟩
    rw [List.getElem?_map, List.getElem?_eq_getElem hi]
    simp [Array.getElem?_eq_getElem hlt]
  done := fun s Q E st hQ => by
    obtain ⟨hI, hd, hTp⟩ := st
    have hT : s.TypeIs (.ref I) "set_iterator" := ⟨_, hI, rfl⟩
    unfold pyNext
    refine wpAny_bind (wpAny_attempt (wpAny_callSpecial?_slot (name := Str.ofString "__next__") hT slot_si_next (wpAny_call_entry slot_si_next hT entry_si_next ?_ (args_si_next _))))
    unfold Builtin.«set_iterator.__next__»
    refine wpAny_bind (m := slotArgs "__next__" 0 _) (wpAny_pure ?_)
    refine wpAny_bind (wpAny_fieldsOf hI rfl ?_)
    show wpAny (model prog w) A.in1 (setEntries d >>= _) _ _ s
    refine wpAny_bind (wpAny_setEntries_of hd rfl hf ?_)
    refine wpAny_ite_split (fun h' => absurd h' (by simp)) (fun _ => ?_)
    show wpAny (model prog w) A.in1 (seqItems? (.ref T) >>= _) _ _ s
    refine wpAny_bind (wpAny_seqItems hTp rfl ?_)
    have hg : (pl.map fun (i : Nat) => rawInt i).toArray[(pl.length : Int).toNat]? = .none := by rw [Int.toNat_natCast]; simp
    simp only [hg]
    show wpAny (model prog w) A.in1 (setField (.ref I) 0 (rawInt 0) >>= fun _ => setField (.ref I) 2 .none >>= fun _ => _) _ _ s
    refine wpAny_bind (wpAny_setField_rec hI (by simp) fun h1' hI1 hs1 => ?_)
    refine wpAny_bind (wpAny_setField_rec hI1 (by simp) fun h2' hI2 hs2 => ?_)
    have hs3 := hs1.trans hs2
    show wpAny _ _ (newExc (.type "StopIteration") [] >>= _) _ _ _
    refine wpAny_bind ?_
    simp only [newExc, newTuple]
    refine wpAny_bind (wpAny_newObj_type ?_ (by size_fits))
    refine wpAny_bind (m := firstArgMember _ _) (wpAny_of_eq (a := Value.none) (by first | rfl | (simp only [firstArgMember]; rfl)) ?_)
    refine wpAny_newObj_type ?_ (by size_fits)
    simp only [raiseNew]
    refine wpAny_bind (wpAny_handled ?_)
    rw [show A.in1.handled = none from hh]
    refine wpAny_bind (wpAny_pure (wpAny_throw ?_))
    refine wpAny_bind (wpAny_isInstance (T := "StopIteration") (b := true) ⟨_, Heap.get?_push_size _ rfl, rfl⟩ isSubtype_stop ?_)
    exact wpAny_pure (hQ _ ⟨fun b o hb e => Heap.get?_push_of_some _ (Heap.get?_push_of_some _ ((hs3.2 b (fun e => hb (by simp [e]))).trans e)), rfl, rfl, rfl, Nat.le_refl _⟩)
  self := fun i s Q E st hQ => by
    have hT : s.TypeIs (.ref I) "set_iterator" := ⟨_, st.1, rfl⟩
    refine wpAny_pyIter_slot hT slot_si_iter (wpAny_call_entry slot_si_iter hT entry_si_iter ?_ (args_si_iter _))
    show wpAny _ _ (ret (.ref I)) _ _ s
    exact wpAny_pure ⟨_, rfl, "set_iterator", _, hT, slot_si_next.lookup, hQ⟩

/-- iter(a set of texts) -/
theorem set_iter {d : Addr} {o : Obj} {ks : List Str} {Q : Value → Shared → Prop} (ho : s.heap.get? d = some o) (hS : SetIs prog w o ks) (hlen : ks.length < 1000)
    (k : ∀ (I : Addr) (fp : List Addr) (vals : List Value) (St : Nat → Shared → Prop) (h' : Heap) (dr : Drawn), (∀ A' : Around, A'.handled = .none → WalksS prog w A' I fp [I] (fun a b => b = a) vals.length (fun i v => vals[i]? = some v) St) → St 0 { s with heap := h', drawn := dr } →
      (∃ ks', StrsAre vals ks' ∧ ks'.Perm ks) → (∀ b ∈ fp, b = d ∨ (s.heap.objs.size ≤ b ∧ b < h'.objs.size)) → (∃ dt, h'.get? I = some ⟨.type "set_iterator", .none, dt, #[]⟩) → s.heap.objs.size ≤ I → (∀ b o, s.heap.get? b = some o → h'.get? b = some o) → Q (.ref I) { s with heap := h', drawn := dr }) :
    wpAny (model prog w) A (pyIter (.ref d)) Q E s := by
  obtain ⟨es, ep, t, rfl, hel, ⟨ks', hks, hp⟩, hf, hled, hpl, hnd⟩ := hS
  have hesz : es.size = ks.length := by
    have := hks.length
    rw [List.length_map, Array.length_toList] at this
    rw [this, hp.length_eq]
  have hT : s.TypeIs (.ref d) "set" := ⟨_, ho, rfl⟩
  have hdlt := Heap.lt_size ho
  refine wpAny_pyIter_slot hT slot_set_iter (wpAny_call_entry slot_set_iter hT entry_set_iter ?_ (args_set_iter _))
  unfold Builtin.«frozenset.__iter__»
  show wpAny (model prog w) A.in1 (Builtin.Frozenset.sizeOf d >>= _) _ _ s
  unfold Builtin.Frozenset.sizeOf
  refine wpAny_bind (wpAny_bind (wpAny_setEntries_of ho rfl hf (wpAny_pure ?_)))
  refine wpAny_bind ?_
  unfold setDrawn
  refine wpAny_bind (wpAny_setState_of ho rfl hf ?_)
  dsimp only
  unfold setsByText
  refine wpAny_bind (wpAny_bind (wpAny_askSetting (wpAny_pure ?_)))
  refine wpAny_pure ?_
  -- what is made in the end
  have fin : ∀ (first : Value) (h0 : Heap) (dr : Drawn), h0.get? d = some ⟨.type "set", .none, .set es ep t, #[]⟩ →
      (Q (.ref h0.objs.size) { s with heap := h0.push (siO first 0 (.ref d) es.size ep), drawn := dr }) →
      wpAny (model prog w) A.in1 (setEpoch d >>= fun e => newFields "set_iterator" [first, rawInt 0, .ref d, rawInt es.size, rawInt e] >>= fun r => ret r)
        (fun fin s' => ∃ v, fin = Fin.done (Flow.ret v) ∧ ∃ T' r, s'.TypeIs v T' ∧ typeLookup (.type T') "__next__" = pure (some r) ∧ Q v s') E { s with heap := h0, drawn := dr } := fun first h0 dr hd0 hq => by
    refine wpAny_bind (wpAny_setEpoch_of (s := { s with heap := h0, drawn := dr }) hd0 rfl hf ?_)
    unfold newFields
    refine wpAny_bind (wpAny_newObj_type ?_ (by size_fits))
    exact wpAny_pure ⟨_, rfl, "set_iterator", _, ⟨_, Heap.get?_push_size _ rfl, rfl⟩, slot_si_next.lookup, hq⟩
  have hsz0 : ∀ (h0 : Heap) (x : Obj), (h0.push x).objs.size = h0.objs.size + 1 := fun h0 x => Heap.size_push ..
  refine wpAny_ite_split (fun hc => ?_) (fun hc => ?_)
  · have hc : (!w.params.followText "set-order" && (!t.plain && decide (es.size > 1))) = true := hc
    refine wpAny_bind (wp_drawOrder es.size (List.range es.size) s (by simp) fun l dr hpl => ?_)
    refine wpAny_bind ?_
    simp only [newTuple]
    refine wpAny_newObj_type ?_ (by show (l.map fun (i : Nat) => rawInt i).toArray.size ≤ sizeLine; rw [List.size_toArray, List.length_map, hpl.length_eq, List.length_range, sizeLine_eq]; omega)
    refine fin _ _ dr (Heap.get?_push_of_some _ ho) ?_
    have hTp : ((s.heap.push (placesO l)).push (siO (.ref s.heap.objs.size) 0 (.ref d) es.size ep)).get? s.heap.objs.size = some (placesO l) := Heap.get?_push_of_some _ (Heap.get?_push_size _ rfl)
    have hIs : (s.heap.push (placesO l)).objs.size = s.heap.objs.size + 1 := hsz0 _ _
    have hI : ((s.heap.push (placesO l)).push (siO (.ref s.heap.objs.size) 0 (.ref d) es.size ep)).get? (s.heap.push (placesO l)).objs.size = some (siO (.ref s.heap.objs.size) 0 (.ref d) es.size ep) := Heap.get?_push_size _ rfl
    have hd1 : ((s.heap.push (placesO l)).push (siO (.ref s.heap.objs.size) 0 (.ref d) es.size ep)).get? d = some ⟨.type "set", .none, .set es ep t, #[]⟩ := Heap.get?_push_of_some _ (Heap.get?_push_of_some _ ho)
    have hvp : (l.map fun p => ((es[p]?).map (·.2)).getD .none).Perm (es.toList.map (·.2)) := by
      refine (hpl.map _).trans (List.Perm.of_eq ?_)
      apply List.ext_getElem
      · simp
      · intro i h1 h2
        simp at h1 h2
        simp [Array.getElem?_eq_getElem h1]
    refine k _ [(s.heap.push (placesO l)).objs.size, d, s.heap.objs.size] (l.map fun p => ((es[p]?).map (·.2)).getD .none) (fun i s' => s'.heap.get? (s.heap.push (placesO l)).objs.size = some (siO (.ref s.heap.objs.size) i (.ref d) es.size ep) ∧ s'.heap.get? d = some ⟨.type "set", .none, .set es ep t, #[]⟩ ∧ s'.heap.get? s.heap.objs.size = some (placesO l)) _ dr (fun A' hA' => ?_) (And.intro hI (And.intro hd1 hTp)) ?_ (fun b hb => ?_) ⟨_, hI⟩ (Nat.le_trans (Nat.le_succ _) (Nat.le_of_eq hIs.symm)) fun b o e => Heap.get?_push_of_some _ (Heap.get?_push_of_some _ e)
    · have := walks_drawn (prog := prog) (w := w) (A := A') (I := (s.heap.push (placesO l)).objs.size) (d := d) (T := s.heap.objs.size) (ep := ep) hf (pl := l) (fun p hp' => by have := hpl.mem_iff.mp hp'; simpa using this) (by rw [hIs]; exact Nat.ne_of_gt (Nat.lt_succ_of_lt hdlt)) (by rw [hIs]; exact Nat.ne_of_gt (Nat.lt_succ_self _)) hA'
      rw [List.length_map]; exact this
    · obtain ⟨k1, a1, b1⟩ := strs_perm hvp hks
      exact ⟨k1, a1, b1.trans hp⟩
    · show b = d ∨ (s.heap.objs.size ≤ b ∧ b < ((s.heap.push (placesO l)).push (siO (.ref s.heap.objs.size) 0 (.ref d) es.size ep)).objs.size)
      rw [hsz0, hIs]
      simp only [List.mem_cons, List.not_mem_nil, or_false] at hb
      rcases hb with e | e | e
      · right; rw [e, hIs]; exact ⟨Nat.le_succ _, Nat.lt_succ_self _⟩
      · left; exact e
      · right; rw [e]; exact ⟨Nat.le_refl _, Nat.lt_succ_of_lt (Nat.lt_succ_self _)⟩
  · have hc : ¬ (!w.params.followText "set-order" && (!t.plain && decide (es.size > 1))) = true := hc
    refine wpAny_bind (wpAny_pure ?_)
    refine fin _ s.heap s.drawn ho ?_
    have hI : (s.heap.push (siO (rawInt 0) 0 (.ref d) es.size ep)).get? s.heap.objs.size = some (siO (rawInt 0) 0 (.ref d) es.size ep) := Heap.get?_push_size _ rfl
    have hd1 : (s.heap.push (siO (rawInt 0) 0 (.ref d) es.size ep)).get? d = some ⟨.type "set", .none, .set es ep t, #[]⟩ := Heap.get?_push_of_some _ ho
    obtain ⟨vals, sl, hsl, hvp, N⟩ : ∃ (vals : List Value) (sl : Nat → Nat), sl 0 = 0 ∧ vals.Perm (es.toList.map (·.2)) ∧ Nx prog w d ⟨.type "set", .none, .set es ep t, #[]⟩ ep vals sl := by
      cases hb : w.params.followText "set-order" with
      | true =>
        obtain ⟨vals, a, b⟩ := nx_text (prog := prog) (d := d) (ep := ep) hf hb
        exact ⟨vals, _, rfl, a, b⟩
      | false =>
        have hsz : es.size ≤ 1 := by
          rcases Nat.lt_or_ge 1 es.size with h1 | h1
          · have hne : ks ≠ [] := fun e => by
              rw [e] at hesz
              exact absurd (hesz.trans rfl : es.size = 0) (Nat.ne_of_gt (Nat.lt_of_lt_of_le (Nat.succ_pos 0) (Nat.le_of_lt h1)))
            rw [hb, hpl hne, decide_eq_true h1] at hc
            exact absurd rfl hc
          · exact h1
        obtain ⟨sl, a, b⟩ := nx_few (prog := prog) (d := d) (ep := ep) hf hb (by rw [hled, hb]; rfl) hsz
        exact ⟨_, sl, a, .refl _, b⟩
    have hvl : vals.length = es.size := by rw [hvp.length_eq, List.length_map, Array.length_toList]
    refine k _ [s.heap.objs.size, d] vals (fun i s' => s'.heap.get? s.heap.objs.size = some (siO (rawInt (sl i)) i (.ref d) es.size ep) ∧ s'.heap.get? d = some ⟨.type "set", .none, .set es ep t, #[]⟩) _ s.drawn (fun A' hA' => walks_nx (ep := ep) hf hvl (Nat.ne_of_gt hdlt) hA' N) (And.intro (by rw [hsl]; exact hI) hd1) ?_ (fun b hb => ?_) ⟨_, hI⟩ (Nat.le_refl _) fun b o e => Heap.get?_push_of_some _ e
    · obtain ⟨k1, a1, b1⟩ := strs_perm hvp hks
      exact ⟨k1, a1, b1.trans hp⟩
    · show b = d ∨ (s.heap.objs.size ≤ b ∧ b < (s.heap.push (siO (rawInt 0) 0 (.ref d) es.size ep)).objs.size)
      rw [hsz0]
      simp only [List.mem_cons, List.not_mem_nil, or_false] at hb
      rcases hb with e | e
      · right; rw [e]; exact ⟨Nat.le_refl _, Nat.lt_succ_self _⟩
      · left; exact e
end
end Mine
end

section
set_option maxRecDepth 100000
namespace Mine
section
variable {prog : Program} {w : World} {A : Around} {E : Value → Shared → Prop} {s : Shared}
theorem len_set : typeLookup (.type "set") "__len__" = pure (some (.builtin "set.__len__")) := by rw [typeLookup_type, builtinLookup_eq_fast]; kernel_rfl
theorem hint_set {d : Addr} {Q : Bool → Shared → Prop} (T : s.TypeIs (.ref d) "set") (h : Q false s) : wpAny (model prog w) A (Builtin.List.listLengthHint (.ref d)) Q E s := by
  unfold Builtin.List.listLengthHint
  refine wpAny_bind (wpAny_specialOf T len_set ?_)
  generalize hid : ("set.__len__" : String) = id0
  wp_delta
  rw [show splitId id0 = some ("set", "__len__") from by subst hid; decide +kernel]
  subst hid
  refine wpAny_bind (wpAny_isInstance (b := true) T (by rw [isSubtype_type]; kernel_rfl) ?_)
  refine wpAny_ite_split (fun h' => absurd h' (by decide)) (fun _ => ?_)
  refine wpAny_ite_split (fun _ => ?_) (fun hn => absurd (by decide +kernel) hn)
  refine wpAny_bind (wpAny_typeOf T ?_)
  exact wpAny_pure h
theorem collect_set {d : Addr} {o : Obj} {ks : List Str} {Q : List Value → Shared → Prop} (hh : A.handled = .none) (ho : s.heap.get? d = some o) (hS : SetIs prog w o ks) (hlen : ks.length < 60)
    (h : ∀ vs h' tk dr, (∃ ks', StrsAre vs ks' ∧ ks'.Perm ks) → (∀ b o, s.heap.get? b = some o → h'.get? b = some o) → s.heap.objs.size ≤ h'.objs.size → Q vs { s with heap := h', toks := tk, drawn := dr }) :
    wpAny (model prog w) A (collect (.ref d)) Q E s := by
  unfold collect
  refine wpAny_bind (wpAny_runValue (codeAny_builtin entry_proto_collect' ?_))
  show wpAny _ _ (do again (.builtin "list.__iadd__" ⟨[← newList [], .ref d], []⟩)) _ _ s
  refine wpAny_bind (wpAny_newList (wpAny_pure ⟨Code.quiet_builtin _ (by decide +kernel), codeAny_builtin entry_list_iadd' ?_⟩))
  show wpAny _ _ (Builtin.List.listExtendWith (.ref s.heap.objs.size) (.ref d) (.ref s.heap.objs.size)) _ _ { s with heap := s.heap.push (seqObj "list" #[] 0) }
  have ho' : (s.heap.push (seqObj "list" #[] 0)).get? d = some o := Heap.get?_push_of_some _ ho
  have hdlt := Heap.lt_size ho
  have hT : Shared.TypeIs { s with heap := s.heap.push (seqObj "list" #[] 0) } (.ref d) "set" := by
    obtain ⟨es, ep, t, rfl, _⟩ := hS
    exact ⟨_, ho', rfl⟩
  have hS1 : (s.heap.push (seqObj "list" #[] 0)).get? s.heap.objs.size = some (seqObj "list" #[] 0) := Heap.get?_push_size _ rfl
  unfold Builtin.List.listExtendWith
  refine wpAny_bind (wpAny_typeOf hT ?_)
  have e1 : Builtin.List.listSameRef (.ref s.heap.objs.size) (.ref d) = false := by simp [Builtin.List.listSameRef]; exact Nat.ne_of_gt hdlt
  have e2 : (Value.type "set" == Value.type "list") = false := by decide
  have e3 : (Value.type "set" == Value.type "tuple") = false := by decide
  simp only [e1, e2, e3, Bool.or_false, Bool.false_eq_true, if_false]
  refine wpAny_bind (set_iter (s := { s with heap := s.heap.push (seqObj "list" #[] 0) }) ho' hS (by omega) fun I fp vals St h1 dr W hst hvals hfp hI hIge hk1 => ?_)
  have hT1 : Shared.TypeIs { s with heap := h1, drawn := dr } (.ref d) "set" := by
    obtain ⟨es, ep, t, rfl, _⟩ := hS
    exact ⟨_, hk1 _ _ ho', rfl⟩
  refine wpAny_bind (wpAny_holding (hint_set (s := { s with heap := h1, drawn := dr }) hT1 ?_))
  refine wpAny_ite_split (fun _ => ?_) (fun hn => absurd (by decide +kernel) hn)
  refine wpAny_bind (wpAny_rule ?_)
  have hSf : s.heap.objs.size ∉ fp := fun hm => by
    rcases hfp _ hm with e | ⟨hge, _⟩
    · exact absurd e (Nat.ne_of_gt hdlt)
    · have : (s.heap.push (seqObj "list" #[] 0)).objs.size = s.heap.objs.size + 1 := size_push' _ _
      have hge : (s.heap.push (seqObj "list" #[] 0)).objs.size ≤ s.heap.objs.size := hge
      omega
  have hg1 := hk1 _ _ hS1
  unfold Builtin.List.listTouch
  refine wpAny_bind (wpAny_bind (listUpdate_at (s := { s with heap := h1, drawn := dr }) hg1 rfl ?_))
  have hg2 := get?_update_seq hg1 (fun x => x.push Value.none)
  refine listUpdate_at (s := { s with heap := _, drawn := dr }) hg2 rfl ?_
  have hg3 := get?_update_seq hg2 (fun x => x.pop)
  have other : ∀ b o, b ≠ s.heap.objs.size → h1.get? b = some o → ((h1.update s.heap.objs.size (Obj.mapSeq fun x => x.push Value.none)).update s.heap.objs.size (Obj.mapSeq fun x => x.pop)).get? b = some o := fun b o hb e => by
    rw [Heap.get?_update_ne _ _ _ _ hb, Heap.get?_update_ne _ _ _ _ hb]; exact e
  obtain ⟨k1, hk1s, hkp⟩ := hvals
  have hvl : vals.length = ks.length := by rw [hk1s.length, hkp.length_eq]
  refine wpAny_pure ⟨plainId_quiet F.plain_extend_loop _, codeAny_extend_loopS ((W _ ?_)) (by rw [hvl, sizeLine_eq]; omega) s.heap.objs.size hSf (.ref s.heap.objs.size) (vals.length - 0) 0 _ #[] _ rfl (Nat.zero_le _) ?_ hg3 (ItemsOf.nil _) fun s' acc' c' hm hS' hacc => ?_⟩
  · exact hh
  · exact (W A hh).frame 0 { s with heap := h1, drawn := dr } ((h1.update s.heap.objs.size (Obj.mapSeq fun x => x.push Value.none)).update s.heap.objs.size (Obj.mapSeq fun x => x.pop)) s.toks hst (Nat.le_refl _) fun b hb o e => other b o (fun e => hSf (e ▸ hb)) e
  · have hav : acc'.toList = vals := by
      apply List.ext_getElem?
      intro i
      rw [Array.getElem?_toList]
      cases hi : acc'[i]? with
      | some v => exact (hacc.2 i v hi).symm
      | none =>
        have hlen' := hacc.1
        rw [Array.getElem?_eq_none_iff] at hi
        rw [List.getElem?_eq_none (by omega)]
    obtain ⟨h', g', d', tk', os'⟩ := s'
    have eg : g' = s.gens := hm.gens
    have ed : d' = dr := hm.drawn
    have eo : os' = s.os := hm.os
    subst eg; subst ed; subst eo
    show wpAny (model prog w) A (do
        let o ← load s.heap.objs.size
        match o.data with
        | .seq xs _ => pure xs.toList
        | _ => unsupported "internal:collect") Q E _
    refine wpAny_bind (wpAny_load hS' ?_)
    refine wpAny_pure ?_
    rw [hav]
    refine h vals h' tk' d' ⟨k1, hk1s, hkp⟩ (fun b o e => ?_) (Nat.le_of_lt (Heap.lt_size hS'))
    have hb := Heap.lt_size e
    refine hm.heap b o (fun hmem => ?_) (other b o (Nat.ne_of_lt hb) (hk1 _ _ (Heap.get?_push_of_some _ e)))
    simp only [List.mem_cons, List.not_mem_nil, or_false] at hmem
    rcases hmem with e | e
    · exact absurd e (Nat.ne_of_lt hb)
    · have : (s.heap.push (seqObj "list" #[] 0)).objs.size = s.heap.objs.size + 1 := size_push' _ _
      have hIge : (s.heap.push (seqObj "list" #[] 0)).objs.size ≤ I := hIge
      rw [e] at hb
      rw [this] at hIge
      exact absurd (Nat.le_trans (Nat.le_succ _) hIge) (Nat.not_le.mpr hb)
/-- sorted(a set of texts) -/
theorem sorted_set {d : Addr} {o : Obj} {ks : List Str} {Q : Value → Shared → Prop} (hh : A.handled = .none) (ho : s.heap.get? d = some o) (hS : SetIs prog w o ks) (hlen : ks.length < 60)
    (h : ∀ b h' tk dr vs zs n, h'.get? b = some (seqObj "list" vs n) → StrsAre vs.toList zs → zs.Perm ks → sortedS zs = true → (∀ b o, s.heap.get? b = some o → h'.get? b = some o) → s.heap.objs.size ≤ b → Q (.ref b) { s with heap := h', toks := tk, drawn := dr }) :
    wpAny (model prog w) A (call (.builtin "sorted") [.ref d]) Q E s := by
  refine Calls.call_function_entry kind_sorted plain_sorted entry_sorted (args_sorted1 _) ?_
  unfold Builtin.«sorted»
  refine wpAny_bind (m := checkCount "sorted" 1 1 _) (wpAny_pure ?_)
  refine wpAny_bind (collect_set (A := A.in1) hh ho hS hlen fun vs h1 tk dr ⟨k1, hk1s, hkp⟩ hk hsz => ?_)
  refine wpAny_bind (wpAny_newList ?_ (by rw [hk1s.length, hkp.length_eq, sizeLine_eq]; omega))
  have hoL : (h1.push (seqObj "list" vs.toArray 0)).get? h1.objs.size = some (seqObj "list" vs.toArray 0) := Heap.get?_push_size _ rfl
  refine wpAny_bind (wpAny_holding (wpAny_call_entry slot_list_sort ⟨_, hoL, rfl⟩ entry_list_sort (list_sort_treeK strKind_oneLt hoL hk1s.keysOf (fun v₁ v₂ rest e => keyKind_strs (by rw [← e]; exact hk1s)) (by rw [hk1s.length, hkp.length_eq]; omega) fun st' hp hs => ⟨_, rfl, ?_⟩) (args_list_sort _)))
  obtain ⟨ss', h1', h2', h3'⟩ := sorted_out_str hk1s hp hs
  obtain ⟨e, he⟩ := sortedHeap_at (h := h1.push (seqObj "list" vs.toArray 0)) (vs := vs) (out := (arrOf st').map (·.2)) hoL
  refine wpAny_pure ⟨_, rfl, h _ _ tk dr _ ss' e he h1' (h2'.trans hkp) h3' (fun b o e' => ?_) hsz⟩
  have hb := Heap.lt_size (hk _ _ e')
  rw [sortedHeap_old (Nat.ne_of_lt hb) (by rw [size_push']; exact Nat.lt_succ_of_lt hb)]
  exact Heap.get?_push_of_some _ (hk _ _ e')
end
section
variable {prog : Program} {w : World} {S0 : Shared} {c : Cx} {m : Ms} {σ : Sto} {K : V → Sto → Prop}
theorem rz_strs : ∀ {zs : List Str} {vs : List Value}, StrsAre vs zs → RzL (zs.map V.str) vs
  | _, _, .nil => trivial
  | _, _, .cons x t h => ⟨⟨t, rfl⟩, rz_strs h⟩
theorem cal_sorted_set {d : Addr} {o : Obj} {ks : List Str} (hd : (d, O.obj o) ∈ c.st m σ) (hS : SetIs prog w o ks) (hlen : ks.length < 60) (h : ∀ b zs, zs.Perm ks → sortedS zs = true → K (.ref b) ((b, .list (zs.map .str)) :: σ)) :
    Cal prog w S0 c m σ (.abs (.builtin "sorted")) [.ref d] [] K := cal_bi fun vs hv s R Q E k => by
  obtain ⟨v, rfl, rfl⟩ := hv.one
  obtain ⟨_, ob, hob, rfl⟩ := R.objs _ hd
  refine sorted_set c.hand hob hS hlen fun b h' tk dr vs zs n hg hz hp hs hk hge => ?_
  exact k _ (.ref b) _ _ (st_new _ (R.anew (x := .list (zs.map .str)) (fun b o _ e => hk b o e) hge hg ⟨vs.toList, n, by simp, rz_strs hz⟩ tk dr)) rfl (h b zs hp hs)
theorem cal_sorted_list {a : Addr} {ys : List Str} (ha : (a, O.list (ys.map .str)) ∈ c.st m σ) (hlen : ys.length < 60) (h : ∀ b zs, zs.Perm ys → sortedS zs = true → K (.ref b) ((b, .list (zs.map .str)) :: σ)) :
    Cal prog w S0 c m σ (.abs (.builtin "sorted")) [.ref a] [] K := cal_bi fun vs hv s R Q E k => by
  obtain ⟨v, rfl, rfl⟩ := hv.one
  obtain ⟨us, n, hl, hz⟩ := list_at R ha
  have hS := strs_of hz
  refine sorted_strs hl.isList hS (by rw [hS.length]; omega) fun out zs h1 h2 h3 => ?_
  obtain ⟨e, he⟩ := sortedAll_at s.heap us out
  exact k _ (.ref (s.heap.objs.size + 1)) _ _ (st_new _ (R.anew (x := .list (zs.map .str)) (fun b o _ e => sortedAll_old e) (Nat.le_succ _) he ⟨out.toList, e, by simp, rz_strs h1⟩ s.toks s.drawn)) rfl (h _ zs h2 h3)
end
end Mine
end

section
set_option maxRecDepth 10000
namespace Mine
section
variable {prog : Program} {w : World} {S0 : Shared} {c : Cx} {m : Ms} {σ : Sto}
/-- n = (a list comprehension of two loops), the stores exchanged -/
theorem ex_assign_comp2 {n : Str} {p pos pos' : Pos} {elt t1 i1 t2 i2 : Expr} {ifs : List Expr} {scope : Scope} {cl : List (Str × Addr)} {names : List Str} {nd : names.Nodup} {rest : List Stmt} {K : Fl → Ms → Sto → Prop} (hk : scope.kind = .function)
    (ndc : ((cellsFrom 0 scope.names []).map (·.1)).Nodup) (hnames : ∀ x ∈ scope.names, x.2 = .local → scope.names.lookup x.1 = some .local) (hclos : closureFor scope c.env = pure cl)
    (h : Ev prog w S0 c i1 m σ fun x σ1 => ∃ xs P, Itb prog w S0 x xs P ∧ P (c.st m σ1) ∧ ∀ L, CT2 prog w S0 (c.comp m scope cl L names hk nd) P t1 t2 i2 ifs elt (fun ys _ τ' => ∃ σ', σ'.Sublist τ' ∧ ∀ a q, Sto1 prog w S0 (c.push q) m ((a, .list ys) :: σ') n (.ref a) fun m' σ2 => Ex prog w S0 c rest m' σ2 K) xs [] []
      (cellObjs (cellsFrom (L + 1) scope.names []) (fun _ => .none) ++ σ1))
    (hw : swapsWith (comp2 elt t1 i1 t2 i2 ifs scope pos') (some (.Name n p)) pos.line c.env = pure true) (hs : ∀ x, foldedSetIterable i1 c.env x = pure x := by intro _; rfl) (hs2 : ∀ L x, foldedSetIterable i2 (cenv c scope cl L) x = pure x := by intro _ _; rfl) :
    Ex prog w S0 c (.Assign [.Name n p] (comp2 elt t1 i1 t2 i2 ifs scope pos') pos :: rest) m σ K :=
  Ex.of fun s R Q E k => wpAny_execs_cons (by
    rw [exec_Assign_Name_used _ _ _ _ hw]
    refine wpAny_bind (wpAny_standAt (wpAny_bind ?_))
    show wpAny _ _ (comprehension (comp2 elt t1 i1 t2 i2 ifs scope pos') scope c.env (firstIterPos [⟨t1, i1, [], 0⟩, ⟨t2, i2, ifs, 0⟩] pos') (newList []) false (eval i1 c.env) (some (assign (.Name n p) c.env)) >>= fun _ => pure ()) _ _ _
    refine wpAny_bind ?_
    refine wpAny_comprehension_free rfl hs hclos hk hnames ?_
    refine Op.get h s R _ E fun v x σ1 s1 R1 hx ⟨xs, P, hI, hP, hT⟩ => ?_
    refine hI c.hand R1 hP hx _ E fun it o s2 I R2 => ?_
    refine wpAny_newObj_type ?_ (by size_fits)
    have R3 := R2.alloc (x := .list []) (o := { cls := .type "list", data := .seq #[] }) ⟨[], 0, rfl, trivial⟩ rfl s2.toks
    refine wp_newCompEnv ?_
    have R4 := R3.enterComp (names := names) (scope := scope) ndc
    generalize hacc : s2.heap.objs.size = acc at *
    generalize hL : (s2.heap.push { cls := .type "list", data := .seq #[] }).objs.size = L at *
    generalize hs4 : ({ s2 with heap := pushCells ((s2.heap.push { cls := .type "list", data := .seq #[] }).push { cls := .type "dict", data := .dict #[] }) scope.names } : Shared) = s4 at *
    have R5 : Rel S0 ((it, o 0) :: (acc, .list []) :: (c.comp m scope cl L names hk nd).st [] (cellObjs (cellsFrom (L + 1) scope.names []) (fun _ => .none) ++ σ1)) s4 := by
      refine R4.perm ?_
      refine ((List.Perm.cons _ (List.perm_middle.trans (.cons _ List.perm_middle))).trans ?_).trans (.cons _ (.cons _ comp_st))
      exact (List.Perm.swap ..).trans ((List.Perm.cons _ (List.Perm.swap ..)).trans (List.Perm.swap ..))
    refine comp_loop2 (c := c.comp m scope cl L names hk nd) I R5 (hT L) (hs2 L) fun ys m' τ' s' R6 ⟨σ', hsub, hK⟩ => ?_
    have R7 : Rel S0 ((L, .frame names m') :: c.st m ((acc, .list ys) :: σ')) s' := by
      have p1 : (((acc, O.list ys) :: (c.comp m scope cl L names hk nd).st m' τ' : Sto)).Perm ((L, .frame names m') :: c.st m ((acc, .list ys) :: τ')) :=
        (List.Perm.swap ..).trans (.cons _ (List.perm_middle (l₁ := (c.env.locals, O.frame c.names m) :: c.F)).symm)
      exact (R6.perm p1).sub (.cons_cons _ (.cons_cons _ (.append (.refl _) (.cons_cons _ hsub))))
    have hk7 : wpAny (model prog w) c.A (assign (.Name n p) c.env (.ref acc)) (fun _ s1 => ∃ m1 σ1, Rel S0 ((L, .frame names m') :: c.st m1 σ1) s1 ∧ ∀ s'', Rel S0 (c.st m1 σ1) s'' → wpAny (model prog w) c.A (execs rest c.env) Q E s'') E s' :=
      wpAny_assign_Name ((hK acc (L, .frame names m')).get _ rfl s' (R7.perm push_perm) _ E fun m2 σ2 s2 R2 h2 => ⟨m2, σ2, R2.perm push_perm.symm, fun s'' R'' => Ex.get h2 s'' R'' Q E k⟩)
    refine wpAny_mono hk7 (fun _ s1 ⟨m1, σ1, R8, h8⟩ => ?_) fun _ _ x => x
    obtain ⟨mm, hns, _⟩ := frame_ns R8
    refine ⟨mm, hns, fun h' hsb => wpAny_pure (wpAny_pure (h8 _ ?_))⟩
    exact R8.gone hsb.extBut s1.toks)
end
end Mine
end

section
set_option maxRecDepth 100000
namespace Mine
noncomputable abbrev pw : Program := PySem.Challenge.pw_sn0049_01
noncomputable def stAt (i : Nat) : Stmt := (pw.main.body[i]?).getD (.Pass ⟨0, 0, 0, 0⟩)
noncomputable def mkFd (st : Stmt) (q : Str) (pm cd dV kV : Value) : FuncData := match st with
  | .FunctionDef name args body _ _ _ scope _ _ _ => { name := name, qualname := q, params := args, body := .stmts body, scope := scope, globals := mainGlobals, closure := [], defaults := dV, kwdefaults := kV, pyModule := pm, code := cd, builtins := builtinsNs }
  | _ => default
noncomputable def bodyOf : Stmt → List Stmt
  | .FunctionDef _ _ body .. => body
  | .ClassDef _ _ _ body .. => body
  | _ => []
noncomputable def scopeOf : Stmt → Scope
  | .FunctionDef _ _ _ _ _ _ scope .. => scope
  | _ => default
noncomputable def locals (s : Scope) : List Str := s.names.filterMap fun p => if p.2 = .local then some p.1 else .none
noncomputable def stVarint : Stmt := stAt 7
noncomputable def stB1 : Stmt := stAt 10
noncomputable def stSubst : Stmt := stAt 15
noncomputable def stLev : Stmt := stAt 16
noncomputable def stClass : Stmt := stAt 5
noncomputable def stUnseen : Stmt := stAt 18
noncomputable def stOctets : Stmt := stAt 19
noncomputable def stWord : Stmt := stAt 20
noncomputable def stBare : Stmt := stAt 21
noncomputable def stRow : Stmt := stAt 22
noncomputable def stWalk : Stmt := stAt 23
noncomputable def stLay : Stmt := stAt 24
noncomputable def stLaw : Stmt := stAt 25
noncomputable def meth (i : Nat) : Stmt := ((bodyOf stClass)[i]?).getD (.Pass ⟨0, 0, 0, 0⟩)
noncomputable def aVarint : Addr := 182
noncomputable def aB1 : Addr := 200
noncomputable def aB1set : Addr := 190
noncomputable def aSubst : Addr := 207
noncomputable def aLev : Addr := 214
noncomputable def aUnseen : Addr := 221
noncomputable def aOctets : Addr := 226
noncomputable def aWord : Addr := 233
noncomputable def aBare : Addr := 238
noncomputable def aRow : Addr := 245
noncomputable def aWalk : Addr := 250
noncomputable def aLay : Addr := 255
noncomputable def aLaw : Addr := 260
noncomputable def aClass : Addr := 171
/-- the signs of table B.1 that the text names -/
noncomputable def b1 : List Int := [173, 847, 6150, 6155, 6156, 6157, 8203, 8204, 8205, 8288, 65279, 65024, 65025, 65026, 65027, 65028, 65029, 65030, 65031, 65032, 65033, 65034, 65035, 65036, 65037, 65038, 65039]

structure FnAt (S0 : Shared) (a : Addr) (st : Stmt) (q : Str) (dV kV : Value) : Prop where
  ex : ∃ o pm cd, S0.heap.get? a = some o ∧ o.data = .func (mkFd st q pm cd dV kV) ∧ S0.heap.CodeRec cd q

structure Hd (S0 : Shared) (mg mb : Str → Option Value) : Prop where
  B : Bs S0 mg mb
  no_ord : mg "ord" = .none
  no_chr : mg "chr" = .none
  no_next : mg "next" = .none
  no_len : mg "len" = .none
  no_min : mg "min" = .none
  no_sum : mg "sum" = .none
  no_iter : mg "iter" = .none
  no_range : mg "range" = .none
  no_list : mg "list" = .none
  no_type : mg "type" = .none
  no_str : mg "str" = .none
  no_sorted : mg "sorted" = .none
  no_set : mg "set" = .none
  g_in_table_b1 : mg "in_table_b1" = some (.ref aB1)
  g_b1_set : mg "b1_set" = some (.ref aB1set)
  g_parse_varint : mg "_parse_varint" = some (.ref aVarint)
  g_substitution_cost : mg "_substitution_cost" = some (.ref aSubst)
  g_levenshtein_distance : mg "_levenshtein_distance" = some (.ref aLev)
  g_law_unseen : mg "_law_unseen" = some (.ref aUnseen)
  g_law_octets : mg "_law_octets" = some (.ref aOctets)
  g_law_word : mg "_law_word" = some (.ref aWord)
  g_law_bare : mg "_law_bare" = some (.ref aBare)
  g_law_row : mg "_law_row" = some (.ref aRow)
  g_law_walk : mg "_law_walk" = some (.ref aWalk)
  g_law_lay : mg "_law_lay" = some (.ref aLay)
  g_CASE_COST : ∃ t, mg "_CASE_COST" = some (.int 1 t)
  g_MOVE_COST : ∃ t, mg "_MOVE_COST" = some (.int 2 t)
  g_MAX_STRING_SIZE : ∃ t, mg "_MAX_STRING_SIZE" = some (.int 40 t)
  f_varint : FnAt S0 aVarint stVarint "_parse_varint" .none .none
  f_b1 : FnAt S0 aB1 stB1 "in_table_b1" .none .none
  f_subst : FnAt S0 aSubst stSubst "_substitution_cost" .none .none
  f_lev : FnAt S0 aLev stLev "_levenshtein_distance" .none .none
  f_unseen : FnAt S0 aUnseen stUnseen "_law_unseen" .none .none
  f_octets : FnAt S0 aOctets stOctets "_law_octets" .none .none
  f_word : FnAt S0 aWord stWord "_law_word" .none .none
  f_bare : FnAt S0 aBare stBare "_law_bare" .none .none
  f_row : FnAt S0 aRow stRow "_law_row" .none .none
  f_walk : FnAt S0 aWalk stWalk "_law_walk" .none .none
  f_lay : FnAt S0 aLay stLay "_law_lay" .none .none
  b1set : ∃ o l, S0.heap.get? aB1set = some o ∧ setView o = some l ∧ ∀ i, l.contains i = b1.contains i
theorem boot_ord : bootBuiltins "ord" = some (.builtin "ord") := by kernel_rfl
theorem boot_chr : bootBuiltins "chr" = some (.builtin "chr") := by kernel_rfl
theorem boot_next : bootBuiltins "next" = some (.builtin "next") := by kernel_rfl
theorem boot_len : bootBuiltins "len" = some (.builtin "len") := by kernel_rfl
theorem boot_min : bootBuiltins "min" = some (.builtin "min") := by kernel_rfl
theorem boot_sorted : bootBuiltins "sorted" = some (.builtin "sorted") := by kernel_rfl
theorem boot_set : bootBuiltins "set" = some (.type "set") := by kernel_rfl
theorem boot_sum : bootBuiltins "sum" = some (.builtin "sum") := by kernel_rfl
theorem boot_iter : bootBuiltins "iter" = some (.builtin "iter") := by kernel_rfl
theorem boot_range : bootBuiltins "range" = some (.type "range") := by kernel_rfl
theorem boot_list : bootBuiltins "list" = some (.type "list") := by kernel_rfl
theorem boot_type : bootBuiltins "type" = some (.type "type") := by kernel_rfl
theorem boot_str : bootBuiltins "str" = some (.type "str") := by kernel_rfl

section
variable {w : World} {S0 : Shared} {c : Cx} {m : Ms} {σ : Sto} {K : V → Sto → Prop} {mg mb : Str → Option Value}
theorem FnAt.ok {a : Addr} {st : Stmt} {q : Str} {dV kV : Value} (h : FnAt S0 a st q dV kV) (hs : ∀ pm cd, (mkFd st q pm cd dV kV).scope = scopeOf st ∧ (mkFd st q pm cd dV kV).body = .stmts (bodyOf st) ∧ (mkFd st q pm cd dV kV).closure = [] ∧ (mkFd st q pm cd dV kV).globals = mainGlobals ∧
      (mkFd st q pm cd dV kV).builtins = builtinsNs ∧ (mkFd st q pm cd dV kV).qualname = q ∧ (mkFd st q pm cd dV kV).code = cd)
    (h1 : (scopeOf st).isCoroutine = false) (h2 : (scopeOf st).isGenerator = false) (h3 : (scopeOf st).kind = .function) (h4 : (locals (scopeOf st)).Nodup) (h5 : ((cellsFrom 0 (scopeOf st).names []).map (·.1)).Nodup) (h6 : ∀ p ∈ (scopeOf st).names, (scopeOf st).names.lookup p.1 = some p.2) :
    ∃ pm cd, FnOk S0 a (mkFd st q pm cd dV kV) (bodyOf st) (locals (scopeOf st)) := by
  obtain ⟨o, pm, cd, ho, hd, hc⟩ := h.ex
  obtain ⟨e1, e2, e3, e4, e5, e6, e7⟩ := hs pm cd
  refine ⟨pm, cd, ⟨o, ho, hd⟩, e2, by rw [e1]; exact h1, by rw [e1]; exact h2, by rw [e1]; exact h3, e3, e4, e5, by rw [e7, e6]; exact hc, h4, fun x hx => ?_, by rw [e1]; exact h5⟩
  rw [e1] at hx
  have hm := mem_of_lookup hx
  exact List.mem_filterMap.mpr ⟨(x, .local), hm, by simp⟩

theorem b1_ok (H : Hd S0 mg mb) : ∃ pm cd, FnOk S0 aB1 (mkFd stB1 "in_table_b1" pm cd .none .none) (bodyOf stB1) (locals (scopeOf stB1)) :=
  H.f_b1.ok (fun _ _ => ⟨rfl, rfl, rfl, rfl, rfl, rfl, rfl⟩) rfl rfl rfl (by decide +kernel) (by decide +kernel) (by decide +kernel)

theorem in_b1 (H : Hd S0 mg mb) (hroom : c.A.depth < recursionLimit) {n : Nat} (h : K (.bool (b1.contains (n : Int))) σ) : Cal pw w S0 c m σ (.ref aB1) [.str (one n)] [] K := by
  obtain ⟨pm, cd, FO⟩ := b1_ok H
  refine cal_def H.B FO hroom (binds_pos (ns := ["code"]) rfl (fun vs hv => ?_) ⟨by rfl, fun L => ?_⟩)
  · obtain ⟨v, rfl⟩ : ∃ v, vs = [v] := List.length_eq_one_iff.mp hv
    rfl
  · refine ex_ret ?_
    refine ev_cmp ?_
    refine ev_call ?_ -- ord(code)
    refine ev_blt H.B rfl rfl (by decide) H.no_ord boot_ord ?_
    refine ⟨kpr_blt, ?_⟩
    refine evs_cons ?_
    refine ev_loc (i := 0) rfl rfl rfl rfl ?_ -- code
    refine evs_nil ?_
    refine cal_ord ?_
    refine ev_glob (V0 := .ref aB1set) H.B rfl rfl H.g_b1_set rfl ?_
    obtain ⟨o, l, ho, hv, hl⟩ := H.b1set
    refine cmp_in_set ho hv ?_
    rw [hl]
    exact ⟨σ, Imp.rfl, h⟩
end
end Mine
end

section
set_option maxRecDepth 100000
namespace Mine
section
variable {w : World} {S0 : Shared} {c : Cx} {m : Ms} {σ : Sto} {K : V → Sto → Prop} {mg mb : Str → Option Value}

noncomputable def unseenC (n : Int) : Nat := (b1.getD (n % 27).toNat 0).toNat
theorem unseen_ok (H : Hd S0 mg mb) : ∃ pm cd, FnOk S0 aUnseen (mkFd stUnseen "_law_unseen" pm cd .none .none) (bodyOf stUnseen) (locals (scopeOf stUnseen)) :=
  H.f_unseen.ok (fun _ _ => ⟨rfl, rfl, rfl, rfl, rfl, rfl, rfl⟩) rfl rfl rfl (by decide +kernel) (by decide +kernel) (by decide +kernel)

theorem unseen_lo : ∀ p : Fin 11, ([173, 847, 6150, 6155, 6156, 6157, 8203, 8204, 8205, 8288, 65279] : List Int)[p.1]? = some (b1.getD p.1 0) ∧ 0 ≤ b1.getD p.1 0 ∧ b1.getD p.1 0 ≤ 0x10FFFF := by decide +kernel
theorem unseen_hi : ∀ p : Fin 27, 11 ≤ p.1 → b1.getD p.1 0 = 65013 + (p.1 : Int) := by decide +kernel

theorem unseen (H : Hd S0 mg mb) (hroom : c.A.depth < recursionLimit) {n : Int} (h : K (.str (one (unseenC n))) σ) : Cal pw w S0 c m σ (.ref aUnseen) [.int n] [] K := by
  obtain ⟨pm, cd, FO⟩ := unseen_ok H
  have hp0 : 0 ≤ n % 27 := Int.emod_nonneg _ (by decide)
  have hp1 : n % 27 < 27 := Int.emod_lt_of_pos _ (by decide)
  have hf : n.fmod 27 = n % 27 := Int.fmod_eq_emod_of_nonneg _ (by decide)
  obtain ⟨p, hp⟩ : ∃ p : Nat, n % 27 = (p : Int) := ⟨(n % 27).toNat, by omega⟩
  have hu : unseenC n = (b1.getD p 0).toNat := by unfold unseenC; rw [hp]; rfl
  rw [hu] at h
  refine cal_def H.B FO hroom (binds_pos (ns := ["number"]) rfl (fun vs hv => ?_) ⟨by rfl, fun L => ?_⟩)
  · obtain ⟨v, rfl⟩ : ∃ v, vs = [v] := List.length_eq_one_iff.mp hv
    rfl
  · refine ex_assign ?_
    refine ev_list ?_
    iterate 11 (refine evs_cons ?_; refine ev_int ?_)
    refine evs_nil ?_
    refine ⟨by decide, fun a => ?_⟩
    refine sto_loc (i := 1) rfl rfl ?_ -- signs
    -- place = number % 27
    refine ex_assign ?_
    refine ev_bin ?_
    refine ev_loc (i := 0) rfl rfl rfl rfl ?_ -- number
    refine ev_int ?_ -- 27
    refine bin_mod (by decide) ?_
    rw [hf, hp]
    refine sto_loc (i := 2) rfl rfl ?_ -- place
    -- return chr(signs[place]) if place < 11 else chr(65013 + place)
    refine ex_ret ?_
    refine ev_if ?_ -- chr(signs[place]) if place < 11 else chr(65013 + place)
    refine et_cmp ?_ -- place < 11
    refine ev_loc (i := 2) rfl rfl rfl rfl ?_ -- place
    refine ev_int ?_ -- 11
    refine cmp_lt ?_
    refine tru_bool ?_
    refine ⟨fun ht => ?_, fun hf => ?_⟩
    · have ht : (p : Int) < 11 := of_decide_eq_true ht
      obtain ⟨q1, q2, q3⟩ := unseen_lo ⟨p, by omega⟩
      refine ev_call ?_ -- chr(signs[place])
      refine ev_blt H.B rfl rfl (by decide) H.no_chr boot_chr ?_
      refine ⟨kpr_blt, ?_⟩
      refine evs_cons ?_
      refine ev_sub ?_
      refine ev_loc (i := 1) rfl rfl rfl rfl ?_ -- signs
      refine ev_loc (i := 2) rfl rfl rfl rfl ?_ -- place
      refine sub_list (x := .int (b1.getD p 0)) (.head _) ?_ (by omega) (by decide) ?_ ?_
      · simp
      · have e : ix ([V.int 173, V.int 847, V.int 6150, V.int 6155, V.int 6156, V.int 6157, V.int 8203, V.int 8204, V.int 8205, V.int 8288, V.int 65279] : List V).length (p : Int) = p := by unfold ix; rw [if_neg (by omega)]; rfl
        rw [e]
        have := congrArg (Option.map V.int) q1
        rw [← List.getElem?_map] at this
        exact this
      refine evs_nil ?_
      refine cal_chr q2 q3 ?_
      exact ⟨σ, Imp.sub (by simp [Cx.st]), h⟩
    · have hf' : ¬ (p : Int) < 11 := of_decide_eq_false hf
      have q := unseen_hi ⟨p, by omega⟩ (by show 11 ≤ p; omega)
      dsimp only at q
      refine ev_call ?_ -- chr(65013 + place)
      refine ev_blt H.B rfl rfl (by decide) H.no_chr boot_chr ?_
      refine ⟨kpr_blt, ?_⟩
      refine evs_cons ?_
      refine ev_bin ?_
      refine ev_int ?_ -- 65013
      refine ev_loc (i := 2) rfl rfl rfl rfl ?_ -- place
      refine bin_add ?_
      refine evs_nil ?_
      refine cal_chr (by omega) (by omega) ?_
      rw [← q]
      exact ⟨σ, Imp.sub (by simp [Cx.st]), h⟩
end
end Mine
end

section
set_option maxRecDepth 100000
namespace Mine
section
variable {w : World} {S0 : Shared} {c : Cx} {m : Ms} {σ : Sto} {K : V → Sto → Prop} {mg mb : Str → Option Value}

/- octets -/
noncomputable def figsAcc (l : Nat) (acc : List Nat) : List Nat := if h : l = 0 then acc else figsAcc (l / 64) ((64 + l % 64) :: acc)
termination_by l
decreasing_by omega
noncomputable def octL (n : Nat) : List Nat := figsAcc (n / 64) [n % 64]
noncomputable def octC (f : Nat) : Nat := if f = 45 then 45 else 128 + f
noncomputable def octT (n : Nat) : List Nat := (octL n).map octC
theorem figsAcc_len (l : Nat) : ∀ acc, (figsAcc l acc).length ≤ acc.length + l := by
  induction l using Nat.strongRecOn with
  | ind l ih =>
    intro acc
    unfold figsAcc
    split
    · omega
    · have := ih (l / 64) (by omega) ((64 + l % 64) :: acc)
      simp at this
      omega
theorem figsAcc_lt (l : Nat) : ∀ acc, (∀ f ∈ acc, f < 128) → ∀ f ∈ figsAcc l acc, f < 128 := by
  induction l using Nat.strongRecOn with
  | ind l ih =>
    intro acc h
    unfold figsAcc
    split
    · exact h
    · refine ih (l / 64) (by omega) _ fun f hf => ?_
      rcases List.mem_cons.mp hf with rfl | hf
      · omega
      · exact h f hf
theorem octL_lt (n : Nat) : ∀ f ∈ octL n, f < 128 := figsAcc_lt _ _ fun f hf => by simp at hf; omega
theorem octL_len (n : Nat) : (octL n).length ≤ 1 + n := by have := figsAcc_len (n / 64) [n % 64]; simp at this; unfold octL; omega

theorem octets_ok (H : Hd S0 mg mb) : ∃ pm cd, FnOk S0 aOctets (mkFd stOctets "_law_octets" pm cd .none .none) (bodyOf stOctets) (locals (scopeOf stOctets)) :=
  H.f_octets.ok (fun _ _ => ⟨rfl, rfl, rfl, rfl, rfl, rfl, rfl⟩) rfl rfl rfl (by decide +kernel) (by decide +kernel) (by decide +kernel)
theorem fmod_nat (a b : Nat) : (a : Int).fmod (b : Int) = ((a % b : Nat) : Int) := by rw [Int.fmod_eq_emod_of_nonneg _ (Int.natCast_nonneg b)]; rfl
theorem fdiv_nat (a b : Nat) : (a : Int).fdiv (b : Int) = ((a / b : Nat) : Int) := by rw [Int.fdiv_eq_ediv_of_nonneg _ (Int.natCast_nonneg b)]; rfl

theorem octets (H : Hd S0 mg mb) (hroom : c.A.depth < recursionLimit) {n : Nat} (hn : n ≤ 900000) (h : K (.str (tx (octT n))) σ) : Cal pw w S0 c m σ (.ref aOctets) [.int n] [] K := by
  obtain ⟨pm, cd, FO⟩ := octets_ok H
  have f64 : ∀ k : Nat, (k : Int).fmod 64 = ((k % 64 : Nat) : Int) := fun k => fmod_nat k 64
  have d64 : ∀ k : Nat, (k : Int).fdiv 64 = ((k / 64 : Nat) : Int) := fun k => fdiv_nat k 64
  refine cal_def H.B FO hroom (binds_pos (ns := ["number"]) rfl (fun vs hv => ?_) ⟨by rfl, fun L => ?_⟩)
  · obtain ⟨v, rfl⟩ : ∃ v, vs = [v] := List.length_eq_one_iff.mp hv
    rfl
  -- figures = [number % 64]
  refine ex_assign ?_
  refine ev_list ?_
  refine evs_cons ?_
  refine ev_bin ?_
  refine ev_loc (i := 0) rfl rfl rfl rfl ?_ -- number
  refine ev_int ?_ -- 64
  refine bin_mod (by decide) ?_
  refine evs_nil ?_
  refine ⟨sz (by simp), fun a => ?_⟩
  refine sto_loc (i := 1) rfl rfl ?_ -- figures
  -- left = number // 64
  refine ex_assign ?_
  refine ev_bin ?_
  refine ev_loc (i := 0) rfl rfl rfl rfl ?_ -- number
  refine ev_int ?_ -- 64
  refine bin_div (by decide) (PyProof.noPylong_small (by decide)) ?_
  refine sto_loc (i := 2) rfl rfl ?_ -- left
  rw [f64, d64]
  -- while left > 0:
  refine ex_whl (fun k m0 τ0 => ∃ a acc, m0 = [(1, .ref a), (2, .int (k : Int))] ∧ τ0 = (a, .list (acc.map fun f : Nat => V.int (f : Int))) :: σ ∧ figsAcc k acc = octL n ∧ acc.length + k ≤ 1 + n) (n / 64)
    (m0 := [(1, .ref a), (2, .int ((n / 64 : Nat) : Int))]) (σ0 := (a, .list [.int ((n % 64 : Nat) : Int)]) :: σ) (.of ⟨rfl, rfl, trivial⟩ (.refl _)) ⟨a, [n % 64], rfl, rfl, rfl, by simp; omega⟩ ?_
  rintro k _ _ ⟨a, acc, rfl, rfl, hf, hlen⟩
  refine et_cmp ?_ -- left > 0
  refine ev_loc (i := 2) rfl rfl rfl rfl ?_ -- left
  refine ev_int ?_ -- 0
  refine cmp_gt ?_
  refine tru_bool ?_
  refine ⟨fun ht => ?_, fun hfl => ?_⟩
  · have hk : k ≠ 0 := by have := of_decide_eq_true ht; omega
    -- figures = [64 + left % 64] + figures
    refine ex_assign ?_
    refine ev_bin ?_
    refine ev_list ?_
    refine evs_cons ?_
    refine ev_bin ?_
    refine ev_int ?_ -- 64
    refine ev_bin ?_
    refine ev_loc (i := 2) rfl rfl rfl rfl ?_ -- left
    refine ev_int ?_ -- 64
    refine bin_mod (by decide) ?_
    refine bin_add ?_
    refine evs_nil ?_
    refine ⟨sz (by simp), fun a1 => ?_⟩
    refine ev_loc (i := 1) rfl rfl rfl rfl ?_ -- figures
    refine bin_lcat (.head _) (.tail _ (.head _)) (sz (by simp; omega)) fun a2 => ?_
    refine sto_loc (i := 1) rfl rfl ?_ -- figures
    -- left = left // 64
    refine ex_assign ?_
    refine ev_bin ?_
    refine ev_loc (i := 2) rfl rfl rfl rfl ?_ -- left
    refine ev_int ?_ -- 64
    refine bin_div (by decide) (PyProof.noPylong_small (by decide)) ?_
    refine sto_loc (i := 2) rfl rfl ?_ -- left
    rw [f64, d64]
    refine ex_nil ⟨k / 64, [(1, .ref a2), (2, .int ((k / 64 : Nat) : Int))], (a2, .list (((64 + k % 64) :: acc).map fun f : Nat => V.int (f : Int))) :: σ, by omega, .of ⟨rfl, rfl, trivial⟩ ?_, a2, (64 + k % 64) :: acc, rfl, rfl, ?_, ?_⟩
    · have e : [V.int ((64 : Int) + ((k % 64 : Nat) : Int))] ++ acc.map (fun f : Nat => V.int (f : Int)) = ((64 + k % 64) :: acc).map fun f : Nat => V.int (f : Int) := by simp
      rw [e]
      exact .cons_cons _ (.cons _ (.cons _ (.refl _)))
    · rw [← hf, figsAcc.eq_def k, dif_neg hk]
    · simp; omega
  · have hk : k = 0 := by have := of_decide_eq_false hfl; omega
    subst hk
    have hf : acc = octL n := by rw [← hf]; unfold figsAcc; simp
    subst hf
    have hlen' := octL_len n
    -- return
    refine ex_ret ?_
    refine ev_meth ?_
    refine ev_str ?_ -- ''
    refine mth_join ?_
    refine ⟨kpr_blt, ?_⟩
    refine evs_cons ?_
    refine ev_comp (cl := []) (names := [".0", "figure"]) (nd := by decide +kernel) rfl (by decide +kernel) (by decide +kernel) rfl ?_
    refine ev_loc (i := 1) rfl rfl rfl rfl ?_ -- figures
    refine ⟨_, _, itb_list, .tail _ (List.mem_append_right _ (.head _)), fun L => ?_⟩
    refine ct_map (fun v => match v with | .int f => .str (one (octC f.toNat)) | _ => .none) (.tail _ (List.mem_append_right _ (.head _))) (sz (by simp; omega)) (fun x hx p q => ?_) ?_
    · obtain ⟨f, hf, rfl⟩ := List.mem_map.mp hx
      have hlt := octL_lt n f hf
      refine asg_name (sto_loc (i := 1) rfl rfl ?_)
      refine ev_if ?_ -- chr(figure) if figure == 45 else chr(128 + figure)
      refine et_cmp ?_ -- figure == 45
      refine ev_loc (i := 1) rfl rfl rfl rfl ?_ -- figure
      refine ev_int ?_ -- 45
      refine cmp_eq ?_
      refine tru_bool ?_
      refine ⟨fun ht => ?_, fun hf => ?_⟩
      · have e : f = 45 := by have := eq_of_beq ht; omega
        subst e
        refine ev_call ?_ -- chr(figure)
        refine ev_blt H.B rfl rfl (by decide) H.no_chr boot_chr ?_
        refine ⟨kpr_blt, ?_⟩
        refine evs_cons ?_
        refine ev_loc (i := 1) rfl rfl rfl rfl ?_ -- figure
        refine evs_nil ?_
        refine cal_chr (by decide) (by decide) ?_
        exact ⟨rfl, .refl _⟩
      · have e : f ≠ 45 := by rintro rfl; simp at hf
        refine ev_call ?_ -- chr(128 + figure)
        refine ev_blt H.B rfl rfl (by decide) H.no_chr boot_chr ?_
        refine ⟨kpr_blt, ?_⟩
        refine evs_cons ?_
        refine ev_bin ?_
        refine ev_int ?_ -- 128
        refine ev_loc (i := 1) rfl rfl rfl rfl ?_ -- figure
        refine bin_add ?_
        refine evs_nil ?_
        refine cal_chr (by omega) (by omega) ?_
        refine ⟨?_, .refl _⟩
        simp only [Int.toNat_natCast]
        unfold octC
        rw [if_neg e]
        congr 2
    · refine ⟨_, .refl _, fun b => ?_⟩
      refine evs_nil ?_
      have e : ((octL n).map fun f : Nat => V.int (f : Int)).map (fun v => match v with | .int f => V.str (one (octC f.toNat)) | _ => .none) = (((octT n).map fun f => [f]).map tx).map V.str := by
        unfold octT
        rw [List.map_map, List.map_map, List.map_map, List.map_map]
        rfl
      rw [e]
      refine cal_join (.tail _ (List.mem_append_right _ (.head _))) ?_ ?_
      · refine join_ok0 1 (fun l hl => ?_) ?_
        · obtain ⟨f, _, rfl⟩ := List.mem_map.mp hl; exact Nat.le_refl _
        · unfold octT; simp; omega
      · rw [join_tx, flat_ones]
        exact ret_sub (by repeat (first | exact .refl _ | refine .cons _ ?_)) h
end
end Mine
end

section
set_option maxRecDepth 100000
namespace Mine
section
variable {w : World} {S0 : Shared} {c : Cx} {m : Ms} {σ : Sto} {K : V → Sto → Prop} {mg mb : Str → Option Value}

theorem band_nat (a b : Nat) : Builtin.bitAnd (a : Int) (b : Int) = ((a &&& b : Nat) : Int) := by
  rw [bitAnd_pp (Int.natCast_nonneg a) (Int.natCast_nonneg b)]; simp
theorem band63 (a : Nat) : Builtin.bitAnd (a : Int) 63 = ((a % 64 : Nat) : Int) := by
  have := band_nat a 63
  rw [show ((63 : Nat) : Int) = 63 from rfl] at this
  rw [this, show (63 : Nat) = 2 ^ 6 - 1 from rfl, Nat.and_two_pow_sub_one_eq_mod]
theorem band64 (a : Nat) : Builtin.bitAnd (a : Int) 64 = ((a / 64 % 2 * 64 : Nat) : Int) := by
  have := band_nat a 64
  rw [show ((64 : Nat) : Int) = 64 from rfl] at this
  rw [this]
  congr 1
  have e1 : (a &&& 64) / 2 ^ 6 = a / 2 ^ 6 &&& 64 / 2 ^ 6 := Nat.and_div_two_pow
  have e2 : (a &&& 64) % 2 ^ 6 = (a % 2 ^ 6) &&& (64 % 2 ^ 6) := Nat.and_mod_two_pow
  rw [show 64 / 2 ^ 6 = 1 from rfl, Nat.and_one_is_mod] at e1
  rw [show 64 % 2 ^ 6 = 0 from rfl, Nat.and_zero] at e2
  omega
theorem and_low (k y : Nat) (h : y < 64) : (k * 64) &&& y = 0 := by
  apply Nat.eq_of_testBit_eq
  intro i
  rw [Nat.testBit_and, Nat.zero_testBit, show k * 64 = 2 ^ 6 * k from Nat.mul_comm _ _, Nat.testBit_two_pow_mul]
  by_cases hi : 6 ≤ i
  · have : y.testBit i = false := Nat.testBit_lt_two_pow (Nat.lt_of_lt_of_le h (Nat.pow_le_pow_right (by decide) hi : 2 ^ 6 ≤ 2 ^ i))
    rw [this, Bool.and_false]
  · simp [hi]
theorem bor_low (k y : Nat) (h : y < 64) : Builtin.bitOr ((k * 64 : Nat) : Int) (y : Int) = ((k * 64 + y : Nat) : Int) := by
  rw [bitOr_and, band_nat, and_low k y h]; simp

/-- what a tape of octets tells, from a value so far on -/
noncomputable def vd (v : Nat) : List Nat → Option (Nat × List Nat)
  | [] => .none
  | b :: r => if b / 64 % 2 = 1 then vd (v * 64 + b % 64) r else some (v * 64 + b % 64, r)
theorem vd_le : ∀ (r : List Nat) (v V : Nat) (rest : List Nat), vd v r = some (V, rest) → v ≤ V
  | [], _, _, _, h => by cases h
  | b :: r, v, V, rest, h => by
    unfold vd at h
    split at h
    · have := vd_le r _ _ _ h; omega
    · cases h; omega

theorem varint_ok (H : Hd S0 mg mb) : ∃ pm cd, FnOk S0 aVarint (mkFd stVarint "_parse_varint" pm cd .none .none) (bodyOf stVarint) (locals (scopeOf stVarint)) :=
  H.f_varint.ok (fun _ _ => ⟨rfl, rfl, rfl, rfl, rfl, rfl, rfl⟩) rfl rfl rfl (by decide +kernel) (by decide +kernel) (by decide +kernel)
theorem nat_ints {bs : List Nat} {i : Nat} {b : Nat} (h : bs[i]? = some b) : (bs.map fun b : Nat => V.int (b : Int))[i]? = some (.int (b : Int)) := by rw [List.getElem?_map, h]; rfl

theorem varint (H : Hd S0 mg mb) (hroom : c.A.depth < recursionLimit) {it l : Addr} {bs : List Nat} {i j v : Nat} (S : Nat → Sto) (hS : ∀ a b, Upd it (.liter l a) (.liter l b) (S a) (S b)) (hl : ∀ a, (l, O.list (bs.map fun b : Nat => V.int (b : Int))) ∈ S a)
    (hv : vd 0 (bs.drop i) = some (v, bs.drop j)) (hj : j ≤ bs.length) (hb : v < 2 ^ 60) (h : K (.int v) (S j)) : Cal pw w S0 c m (S i) (.ref aVarint) [.ref it] [] K := by
  obtain ⟨pm, cd, FO⟩ := varint_ok H
  refine cal_def H.B FO hroom (binds_pos (ns := ["iterator"]) rfl (fun vs hv => ?_) ⟨by rfl, fun L => ?_⟩)
  · obtain ⟨v, rfl⟩ : ∃ v, vs = [v] := List.length_eq_one_iff.mp hv
    rfl
  have dropc : ∀ i b, bs[i]? = some b → bs.drop i = b :: bs.drop (i + 1) := fun i b hb => by
    obtain ⟨hlt, e⟩ := List.getElem?_eq_some_iff.mp hb
    rw [List.drop_eq_getElem_cons hlt, e]
  have some_of : ∀ i v V r, vd v (bs.drop i) = some (V, r) → ∃ b, bs[i]? = some b := fun i v V r hh => by
    cases hi : bs[i]? with
    | some b => exact ⟨b, rfl⟩
    | none =>
      rw [List.drop_eq_nil_of_le (by simpa using hi)] at hh; cases hh
  obtain ⟨b0, hb0⟩ := some_of _ _ _ _ hv
  -- b = next(iterator)
  refine ex_assign ?_
  refine ev_call ?_ -- next(iterator)
  refine ev_blt H.B rfl rfl (by decide) H.no_next boot_next ?_
  refine ⟨kpr_blt, ?_⟩
  refine evs_cons ?_
  refine ev_loc (i := 0) rfl rfl rfl rfl ?_ -- iterator
  refine evs_nil ?_
  refine cal_next (mem_st (hl i)) (hS i (i + 1)) (nat_ints hb0) ?_
  refine sto_loc (i := 1) rfl rfl ?_ -- b
  -- val = b & 63
  refine ex_assign ?_
  refine ev_bin ?_
  refine ev_loc (i := 1) rfl rfl rfl rfl ?_ -- b
  refine ev_int ?_ -- 63
  refine bin_and ?_
  rw [band63]
  refine sto_loc (i := 2) rfl rfl ?_ -- val
  -- while b & 64:
  refine ex_whl (fun n m0 τ0 => ∃ (k b u : Nat), n = bs.length - k ∧ m0 = [(0, .ref it), (1, .int (b : Int)), (2, .int (u : Int))] ∧ τ0 = S k ∧ (if b / 64 % 2 = 1 then vd u (bs.drop k) = some (v, bs.drop j) else u = v ∧ bs.drop k = bs.drop j) ∧ u ≤ v ∧ k ≤ bs.length) (bs.length - (i + 1))
    (m0 := [(0, .ref it), (1, .int (b0 : Int)), (2, .int ((b0 % 64 : Nat) : Int))]) (σ0 := S (i + 1)) (.of ⟨rfl, rfl, rfl, trivial⟩ (.refl _)) ⟨i + 1, b0, b0 % 64, rfl, rfl, rfl, ?_, ?_, ?_⟩ ?_
  · rw [dropc i b0 hb0] at hv
    unfold vd at hv
    rw [Nat.zero_mul, Nat.zero_add] at hv
    split at hv
    · rename_i hc; rw [if_pos hc]; exact hv
    · rename_i hc; rw [if_neg hc]; exact Prod.mk.inj (Option.some.inj hv)
  · rw [dropc i b0 hb0] at hv
    unfold vd at hv
    rw [Nat.zero_mul, Nat.zero_add] at hv
    split at hv
    · exact vd_le _ _ _ _ hv
    · exact Nat.le_of_eq (Prod.mk.inj (Option.some.inj hv)).1
  · have := (List.getElem?_eq_some_iff.mp hb0).1; omega
  rintro n _ _ ⟨k, b, u, rfl, rfl, rfl, hI, hu, hk⟩
  refine et_plain ?_ -- b & 64
  refine ev_bin ?_
  refine ev_loc (i := 1) rfl rfl rfl rfl ?_ -- b
  refine ev_int ?_ -- 64
  refine bin_and ?_
  rw [band64]
  refine tru_int ?_
  refine ⟨fun ht => ?_, fun hf => ?_⟩
  · have hc : b / 64 % 2 = 1 := by
      have : ((b / 64 % 2 * 64 : Nat) : Int) ≠ 0 := by simpa using ht
      omega
    rw [if_pos hc] at hI
    obtain ⟨b1, hb1⟩ := some_of _ _ _ _ hI
    have hlt1 := (List.getElem?_eq_some_iff.mp hb1).1
    -- val <<= 6
    refine ex_aug ?_
    refine ld_loc (i := 2) rfl rfl rfl rfl ?_
    refine ev_int ?_ -- 6
    refine ibin_shl (by decide) (by decide) (by omega) ?_
    refine sto_loc (i := 2) rfl rfl ?_ -- val
    -- b = next(iterator)
    refine ex_assign ?_
    refine ev_call ?_ -- next(iterator)
    refine ev_blt H.B rfl rfl (by decide) H.no_next boot_next ?_
    refine ⟨kpr_blt, ?_⟩
    refine evs_cons ?_
    refine ev_loc (i := 0) rfl rfl rfl rfl ?_ -- iterator
    refine evs_nil ?_
    refine cal_next (mem_st (hl k)) (hS k (k + 1)) (nat_ints hb1) ?_
    refine sto_loc (i := 1) rfl rfl ?_ -- b
    -- val |= b & 63
    refine ex_aug ?_
    refine ld_loc (i := 2) rfl rfl rfl rfl ?_
    refine ev_bin ?_
    refine ev_loc (i := 1) rfl rfl rfl rfl ?_ -- b
    refine ev_int ?_ -- 63
    refine bin_and ?_
    rw [band63]
    refine ibin_or ?_
    rw [show (u : Int) * 2 ^ (6 : Int).toNat = ((u * 64 : Nat) : Int) by rw [Int.natCast_mul]; rfl, bor_low _ _ (Nat.mod_lt _ (by decide))]
    refine sto_loc (i := 2) rfl rfl ?_ -- val
    rw [dropc k b1 hb1] at hI
    unfold vd at hI
    refine ex_nil ⟨bs.length - (k + 1), [(0, .ref it), (1, .int (b1 : Int)), (2, .int ((u * 64 + b1 % 64 : Nat) : Int))], S (k + 1), by omega, .of ⟨rfl, rfl, rfl, trivial⟩ (.refl _), k + 1, b1, u * 64 + b1 % 64, rfl, rfl, rfl, ?_, ?_, by omega⟩
    · split at hI
      · rename_i hc; rw [if_pos hc]; exact hI
      · rename_i hc; rw [if_neg hc]; exact Prod.mk.inj (Option.some.inj hI)
    · split at hI
      · exact vd_le _ _ _ _ hI
      · exact Nat.le_of_eq (Prod.mk.inj (Option.some.inj hI)).1
  · have hc : ¬ b / 64 % 2 = 1 := by
      have : ((b / 64 % 2 * 64 : Nat) : Int) = 0 := by simpa using hf
      omega
    rw [if_neg hc] at hI
    obtain ⟨rfl, hd⟩ := hI
    have : k = j := by
      have := congrArg List.length hd
      simp at this; omega
    subst this
    -- return val
    refine ex_ret ?_
    refine ev_loc (i := 2) rfl rfl rfl rfl ?_ -- val
    exact ret_sub (.refl _) h
end
end Mine
end

section
set_option maxRecDepth 100000
namespace Mine
section
variable {w : World} {S0 : Shared} {c : Cx} {m : Ms} {σ : Sto} {K : V → Sto → Prop} {mg mb : Str → Option Value}

theorem len2 {α : Type} {l : List α} (h : l.length = 2) : ∃ a b, l = [a, b] := by
  match l, h with
  | [a, b], _ => exact ⟨a, b, rfl⟩
theorem len3 {α : Type} {l : List α} (h : l.length = 3) : ∃ a b c, l = [a, b, c] := by
  match l, h with
  | [a, b, c], _ => exact ⟨a, b, c, rfl⟩
/- _substitution_cost -/
noncomputable def Okc (n : Nat) : Prop := PySem.Txt.lower (one n) = one (lo1 n)
theorem Okc.ascii {n : Nat} (h : n < 128) : Okc n := by
  unfold Okc
  rw [one_tx, lower_tx fun c hc => by simp at hc; omega]
  rfl
noncomputable def subC (a b : Nat) : Nat := if a = b then 0 else if lo1 a = lo1 b then 1 else 2
theorem one_beq (a b : Nat) : (one a == one b) = (a == b) := by
  rw [one_tx, one_tx, tx_beq, Bool.eq_iff_iff]; simp
theorem subst_ok (H : Hd S0 mg mb) : ∃ pm cd, FnOk S0 aSubst (mkFd stSubst "_substitution_cost" pm cd .none .none) (bodyOf stSubst) (locals (scopeOf stSubst)) :=
  H.f_subst.ok (fun _ _ => ⟨rfl, rfl, rfl, rfl, rfl, rfl, rfl⟩) rfl rfl rfl (by decide +kernel) (by decide +kernel) (by decide +kernel)
theorem len_one (a : Nat) : (one a).length = 1 := rfl
theorem subst (H : Hd S0 mg mb) (hroom : c.A.depth < recursionLimit) {a b : Nat} (ha : Okc a) (hb : Okc b) (h : K (.int (subC a b)) σ) : Cal pw w S0 c m σ (.ref aSubst) [.str (one a), .str (one b)] [] K := by
  obtain ⟨pm, cd, FO⟩ := subst_ok H
  refine cal_def H.B FO hroom (binds_pos (ns := ["ch_a", "ch_b"]) rfl (fun vs hv => ?_) ⟨by rfl, fun L => ?_⟩)
  · obtain ⟨v, u, rfl⟩ := len2 hv
    rfl
  -- if ch_a == ch_b:
  refine ex_if ?_
  refine et_cmp ?_ -- ch_a == ch_b
  refine ev_loc (i := 0) rfl rfl rfl rfl ?_ -- ch_a
  refine ev_loc (i := 1) rfl rfl rfl rfl ?_ -- ch_b
  refine cmp_seq ?_
  refine tru_bool ?_
  rw [one_beq]
  refine ⟨fun ht => ?_, fun hf => ?_⟩
  · have e : a = b := eq_of_beq ht
    subst e
    -- return 0
    refine ex_ret ?_
    refine ev_int ?_ -- 0
    refine ret_sub (m' := []) (.refl _) ?_
    unfold subC at h; rw [if_pos rfl] at h; exact h
  refine ex_nil ?_
  have hne : a ≠ b := fun e => by subst e; simp at hf
  -- if ch_a.lower() == ch_b.lower():
  refine ex_if ?_
  refine et_cmp ?_ -- ch_a.lower() == ch_b.lower()
  refine ev_meth ?_ -- ch_a.lower()
  refine ev_loc (i := 0) rfl rfl rfl rfl ?_ -- ch_a
  refine mth_lower ?_
  refine ⟨kpr_blt, ?_⟩
  refine evs_nil ?_
  refine cal_lower (by rw [len_one]; decide) ?_
  rw [ha]
  refine ev_meth ?_ -- ch_b.lower()
  refine ev_loc (i := 1) rfl rfl rfl rfl ?_ -- ch_b
  refine mth_lower ?_
  refine ⟨kpr_blt, ?_⟩
  refine evs_nil ?_
  refine cal_lower (by rw [len_one]; decide) ?_
  rw [hb]
  refine cmp_seq ?_
  refine tru_bool ?_
  rw [one_beq]
  refine ⟨fun ht => ?_, fun hf => ?_⟩
  · -- return _CASE_COST
    refine ex_ret ?_
    obtain ⟨t, ht'⟩ := H.g_CASE_COST
    refine ev_glob (V0 := .int 1) H.B rfl rfl ht' ⟨_, rfl⟩ ?_
    refine ret_sub (m' := []) (.refl _) ?_
    unfold subC at h; rw [if_neg hne, if_pos (eq_of_beq ht)] at h; exact h
  refine ex_nil ?_
  -- return _MOVE_COST
  refine ex_ret ?_
  obtain ⟨t, ht'⟩ := H.g_MOVE_COST
  refine ev_glob (V0 := .int 2) H.B rfl rfl ht' ⟨_, rfl⟩ ?_
  refine ret_sub (m' := []) (.refl _) ?_
  unfold subC at h; rw [if_neg hne, if_neg (fun e => by rw [e] at hf; simp at hf)] at h; exact h

/- _law_spelled -/
theorem shr_nat (k j : Nat) : (k : Int).fdiv (2 ^ ((j : Int)).toNat) = ((k / 2 ^ j : Nat) : Int) := by
  rw [Int.toNat_natCast]
  have e : (2 : Int) ^ j = ((2 ^ j : Nat) : Int) := by simp
  rw [e, fdiv_nat]
theorem band1 (a : Nat) : Builtin.bitAnd (a : Int) 1 = ((a % 2 : Nat) : Int) := by
  have := band_nat a 1
  rw [show ((1 : Nat) : Int) = 1 from rfl] at this
  rw [this, Nat.and_one_is_mod]
theorem ix_nat (n j : Nat) : ix n (j : Int) = j := by unfold ix; rw [if_neg (by omega)]; rfl
theorem range3 : (List.range 3).map (fun j : Nat => V.int (0 + (j : Int) * 1)) = (List.range 3).map fun j : Nat => V.int (j : Int) := by
  apply List.map_congr_left; intro j _; simp
end
end Mine
end

section
set_option maxRecDepth 100000
namespace Mine
/- _levenshtein_distance: what it tells -/
noncomputable def preL : List Nat → List Nat → Nat
  | x :: xs, y :: ys => if x = y then 1 + preL xs ys else 0
  | _, _ => 0
noncomputable def sufL (a b : List Nat) : Nat := preL a.reverse b.reverse
noncomputable def maxI : Int := 9223372036854775807
noncomputable def inner (bc : Nat) : List (Nat × Int) → Int → Int → Int → List Int × Int × Int
  | [], _, r, mn => ([], r, mn)
  | (ac, rv) :: t, d, r, mn =>
    let r' := min (min r rv + 2) (d + (subC bc ac : Nat))
    let x := inner bc t rv r' (if r' < mn then r' else mn)
    (r' :: x.1, x.2.1, x.2.2)
noncomputable def outer (a : List Nat) (mc : Int) : Nat → List Nat → List Int → Int → Int
  | _, [], _, r => r
  | k, bc :: t, row, _ =>
    let x := inner bc (a.zip row) (2 * (k : Int)) (2 * (k : Int)) maxI
    if x.2.2 > mc then mc + 1 else outer a mc (k + 1) t x.1 x.2.1
noncomputable def row0 (n : Nat) : List Int := (List.range n).map fun j : Nat => 2 + (j : Int) * 2
noncomputable def levT (a b : List Nat) (mc : Int) : Int := if ((b.length : Int) - a.length) * 2 > mc then mc + 1 else outer a mc 0 b (row0 a.length) 0
noncomputable def levM (a b : List Nat) (mc : Int) : Int :=
  if a = [] ∨ b = [] then 2 * ((a.length : Int) + b.length)
  else if a.length > 40 ∨ b.length > 40 then mc + 1
  else if b.length < a.length then levT b a mc else levT a b mc
noncomputable def levS2 (a b : List Nat) (mc : Int) : Int := levM (a.take (a.length - sufL a b)) (b.take (b.length - sufL a b)) mc
noncomputable def levF (a b : List Nat) (mc : Int) : Int := if a = b then 0 else levS2 (a.drop (preL a b)) (b.drop (preL a b)) mc

theorem clip_nat (n k : Nat) : clipAt n (k : Int) = min k n := by
  have := clipAt_cast n (k : Int)
  rw [if_neg (by omega)] at this
  omega
theorem cut_from (l : List Nat) (k : Nat) : cut l (some (k : Int)) .none = l.drop k := by
  unfold cut
  simp only [Option.elim_some, Option.elim_none]
  rw [clip_nat, List.take_of_length_le (by simp)]
  rcases Nat.le_total k l.length with h | h
  · rw [Nat.min_eq_left h]
  · rw [Nat.min_eq_right h, List.drop_eq_nil_of_le h, List.drop_length]
theorem cut_to (l : List Nat) (q : Nat) (h0 : 0 < q) (hq : q ≤ l.length) : cut l .none (some (-(q : Int))) = l.take (l.length - q) := by
  unfold cut
  simp only [Option.elim_some, Option.elim_none, List.drop_zero, Nat.sub_zero]
  have := clipAt_cast l.length (-(q : Int))
  rw [if_pos (by omega)] at this
  congr 1
  omega
theorem cut_all (l : List Nat) : cut l .none .none = l := by unfold cut; simp
theorem preL_le : ∀ a b : List Nat, preL a b ≤ a.length ∧ preL a b ≤ b.length
  | [], _ => by simp [preL]
  | _ :: _, [] => by simp [preL]
  | x :: xs, y :: ys => by
    have := preL_le xs ys
    unfold preL
    split <;> simp <;> omega
theorem preL_drop (a b : List Nat) (k : Nat) (x y : Nat) (ha : a[k]? = some x) (hb : b[k]? = some y) (h : preL a b = k + preL (a.drop k) (b.drop k)) : if x = y then preL a b = (k + 1) + preL (a.drop (k + 1)) (b.drop (k + 1)) else preL a b = k := by
  obtain ⟨h1, e1⟩ := List.getElem?_eq_some_iff.mp ha
  obtain ⟨h2, e2⟩ := List.getElem?_eq_some_iff.mp hb
  rw [List.drop_eq_getElem_cons h1, List.drop_eq_getElem_cons h2, e1, e2] at h
  have e0 : ∀ xs ys : List Nat, preL (x :: xs) (y :: ys) = if x = y then 1 + preL xs ys else 0 := fun _ _ => rfl
  rw [e0] at h
  split
  · rename_i e; rw [if_pos e] at h; omega
  · rename_i e; rw [if_neg e] at h; omega
section
variable {w : World} {S0 : Shared} {c : Cx} {m : Ms} {σ : Sto} {K : Fl → Ms → Sto → Prop} {mg mb : Str → Option Value}
theorem lev_ok (H : Hd S0 mg mb) : ∃ pm cd, FnOk S0 aLev (mkFd stLev "_levenshtein_distance" pm cd .none .none) (bodyOf stLev) (locals (scopeOf stLev)) :=
  H.f_lev.ok (fun _ _ => ⟨rfl, rfl, rfl, rfl, rfl, rfl, rfl⟩) rfl rfl rfl (by decide +kernel) (by decide +kernel) (by decide +kernel)
noncomputable abbrev levC (c : Cx) (m : Ms) (L : Addr) {pm cd : Value} (FO : FnOk S0 aLev (mkFd stLev "_levenshtein_distance" pm cd .none .none) (bodyOf stLev) (locals (scopeOf stLev))) : Cx :=
  c.into m (mkFd stLev "_levenshtein_distance" pm cd .none .none) aLev L (locals (scopeOf stLev)) FO.kind FO.glob FO.blt FO.nd
noncomputable def levB (k : Nat) : List Stmt := (bodyOf stLev).drop k

theorem tru_tx {l : List Nat} {K : Bool → Sto → Prop} (hs : l.length ≤ 1000000) (h : K (decide (l ≠ [])) σ) : Tru pw w S0 c m σ (.str (tx l)) K := by
  refine tru_str (by rw [len_tx]; omega) ?_
  rw [len_tx]
  have : ((l.length : Int) != 0) = decide (l ≠ []) := by
    cases l with
    | nil => rfl
    | cons a l => simp; omega
  rw [this]; exact h

variable {pm cd : Value} {L : Addr} (FO : FnOk S0 aLev (mkFd stLev "_levenshtein_distance" pm cd .none .none) (bodyOf stLev) (locals (scopeOf stLev)))
theorem lev_pre {a b : List Nat} {mc : Int} (ha : a.length ≤ 1000000) (hb : b.length ≤ 1000000) (h : Ex pw w S0 (levC c m L FO) (levB 3) [(0, .str (tx a)), (1, .str (tx b)), (2, .int mc), (3, .int (preL a b))] σ K) :
    Ex pw w S0 (levC c m L FO) (levB 2) [(3, .int 0), (0, .str (tx a)), (1, .str (tx b)), (2, .int mc)] σ K := by
  refine ex_whl (fun n m0 τ0 => ∃ k : Nat, n = a.length - k ∧ k ≤ a.length ∧ m0 = [(0, .str (tx a)), (1, .str (tx b)), (2, .int mc), (3, .int (k : Int))] ∧ σ = τ0 ∧ preL a b = k + preL (a.drop k) (b.drop k)) a.length
    (m0 := [(0, .str (tx a)), (1, .str (tx b)), (2, .int mc), (3, .int ((0 : Nat) : Int))]) (σ0 := σ) (.of ⟨rfl, rfl, rfl, rfl, trivial⟩ (.refl _)) ⟨0, rfl, Nat.zero_le _, rfl, rfl, by simp⟩ ?_
  rintro n _ _ ⟨k, rfl, hk, rfl, rfl, hp⟩
  have fin : preL a b = k → Ex pw w S0 (levC c m L FO) (levB 3) [(0, .str (tx a)), (1, .str (tx b)), (2, .int mc), (3, .int (k : Int))] σ K := fun e => by rw [← e]; exact h
  refine et_and ?_
  refine et_plain ?_ -- a[pre:]
  refine ev_sslice ?_
  refine ev_loc (i := 0) rfl rfl rfl rfl ?_ -- a
  refine pt_some ?_
  refine ev_loc (i := 3) rfl rfl rfl rfl ?_ -- pre
  refine .inl ⟨_, rfl, ?_⟩
  refine pt_none ?_
  refine ⟨_, rfl, sz (by rw [len_tx]; exact ha), ?_⟩
  rw [slice_tx, cut_from]
  refine tru_tx (by simp; omega) ?_
  refine ⟨fun h1 => ?_, fun h1 => ⟨fun e => (nomatch e), fun _ => fin ?_⟩⟩
  rotate_left
  · have : a.drop k = [] := by simpa using h1
    rw [this] at hp; simpa [preL] using hp
  have hka : k < a.length := by
    have : a.drop k ≠ [] := of_decide_eq_true h1
    rcases Nat.lt_or_ge k a.length with h | h
    · exact h
    · exact absurd (List.drop_eq_nil_of_le h) this
  refine et_and ?_
  refine et_plain ?_ -- b[pre:]
  refine ev_sslice ?_
  refine ev_loc (i := 1) rfl rfl rfl rfl ?_ -- b
  refine pt_some ?_
  refine ev_loc (i := 3) rfl rfl rfl rfl ?_ -- pre
  refine .inl ⟨_, rfl, ?_⟩
  refine pt_none ?_
  refine ⟨_, rfl, sz (by rw [len_tx]; exact hb), ?_⟩
  rw [slice_tx, cut_from]
  refine tru_tx (by simp; omega) ?_
  refine ⟨fun h2 => ?_, fun h2 => ⟨fun e => (nomatch e), fun _ => fin ?_⟩⟩
  rotate_left
  · have : b.drop k = [] := by simpa using h2
    rw [this] at hp
    cases hd : a.drop k <;> rw [hd] at hp <;> simpa [preL] using hp
  have hkb : k < b.length := by
    have : b.drop k ≠ [] := of_decide_eq_true h2
    rcases Nat.lt_or_ge k b.length with h | h
    · exact h
    · exact absurd (List.drop_eq_nil_of_le h) this
  obtain ⟨x, hx⟩ : ∃ x, a[k]? = some x := ⟨_, List.getElem?_eq_getElem hka⟩
  obtain ⟨y, hy⟩ : ∃ y, b[k]? = some y := ⟨_, List.getElem?_eq_getElem hkb⟩
  have hstep := preL_drop a b k x y hx hy hp
  refine et_and ?_
  refine et_cmp ?_ -- a[pre] == b[pre]
  refine ev_sub ?_
  refine ev_loc (i := 0) rfl rfl rfl rfl ?_ -- a
  refine ev_loc (i := 3) rfl rfl rfl rfl ?_ -- pre
  refine sub_str (cp := x) (fitsSsize_of (N := 9223372036854775808) (by omega) (by omega) (Int.le_refl _)) (charAt_tx (by omega) (by rw [ix_nat]; exact hx)) ?_
  refine ev_sub ?_
  refine ev_loc (i := 1) rfl rfl rfl rfl ?_ -- b
  refine ev_loc (i := 3) rfl rfl rfl rfl ?_ -- pre
  refine sub_str (cp := y) (fitsSsize_of (N := 9223372036854775808) (by omega) (by omega) (Int.le_refl _)) (charAt_tx (by omega) (by rw [ix_nat]; exact hy)) ?_
  refine cmp_seq ?_
  refine tru_bool ?_
  rw [show ((⟨#[x]⟩ : Str) == ⟨#[y]⟩) = (x == y) from one_beq x y]
  refine ⟨fun h3 => ?_, fun h3 => ⟨fun e => (nomatch e), fun _ => fin ?_⟩⟩
  rotate_left
  · rw [if_neg (by simpa using h3)] at hstep; exact hstep
  rw [if_pos (eq_of_beq h3)] at hstep
  refine et_and_nil ?_
  refine ⟨fun _ => ?_, fun e => by cases e⟩
  -- pre += 1
  refine ex_aug ?_
  refine ld_loc (i := 3) rfl rfl rfl rfl ?_
  refine ev_int ?_ -- 1
  refine ibin_add ?_
  refine sto_loc (i := 3) rfl rfl ?_ -- pre
  refine ex_nil ⟨a.length - (k + 1), [(0, .str (tx a)), (1, .str (tx b)), (2, .int mc), (3, .int ((k + 1 : Nat) : Int))], σ, by omega, .of ⟨rfl, rfl, rfl, ?_, trivial⟩ (.refl _), k + 1, rfl, hka, rfl, rfl, hstep⟩
  show some (V.int ((k : Int) + 1)) = _
  congr 2
end
end Mine
end

section
set_option maxRecDepth 100000
namespace Mine
section
variable {w : World} {S0 : Shared} {c : Cx} {m mm : Ms} {σ : Sto} {mg mb : Str → Option Value}
variable {pm cd : Value} {L : Addr} (FO : FnOk S0 aLev (mkFd stLev "_levenshtein_distance" pm cd .none .none) (bodyOf stLev) (locals (scopeOf stLev)))

theorem ev_cutpost {K : V → Sto → Prop} {nm : Str} {p1 p2 p3 p4 p5 p6 : Pos} {kk : Nat} {a : List Nat} {q : Nat} (hn : ∀ K' : V → Sto → Prop, K' (.str (tx a)) σ → Ev pw w S0 (levC c m L FO) (.Name nm p1) mm σ K') (hp : mm.lookup 4 = some (.int (-(q : Int)))) (hq : q ≤ a.length) (ha : a.length ≤ 1000000)
    (h : K (.str (tx (a.take (a.length - q)))) σ) : Ev pw w S0 (levC c m L FO) (.Subscript (.Name nm p1) (.Slice .none (some (.BoolOp .Or [.Name "post" p2, .Constant .none kk p3] p4)) .none p5) p6) mm σ K := by
  refine ev_sslice (hn _ ?_)
  refine pt_none ?_
  refine pt_some ?_
  refine ev_or ?_
  refine ev_loc (i := 4) rfl rfl rfl hp ?_ -- post
  refine tru_int ?_
  refine ⟨fun h0 => ?_, fun h0 => ?_⟩
  · have : q ≠ 0 := by rintro rfl; simp at h0
    refine .inl ⟨_, rfl, ?_⟩
    refine ⟨_, rfl, sz (by rw [len_tx]; exact ha), ?_⟩
    rw [slice_tx, cut_to _ _ (by omega) hq]; exact h
  · have : q = 0 := by have : (-(q : Int)) = 0 := by simpa using h0
                       omega
    subst this
    refine ev_bool1 (ev_none ?_)
    refine .inr ⟨rfl, ?_⟩
    refine ⟨_, rfl, sz (by rw [len_tx]; exact ha), ?_⟩
    rw [slice_tx, cut_all]; rw [Nat.sub_zero, List.take_length] at h; exact h
theorem rev_get {a : List Nat} {q : Nat} (h : q < a.length) : ∃ x, a.reverse[q]? = some x ∧ a[ix a.length (-(q : Int) - 1)]? = some x := by
  refine ⟨a[a.length - 1 - q]'(by omega), ?_, ?_⟩
  · rw [List.getElem?_reverse h]; exact List.getElem?_eq_getElem _
  · have : ix a.length (-(q : Int) - 1) = a.length - 1 - q := by unfold ix; rw [if_pos (by omega)]; omega
    rw [this]; exact List.getElem?_eq_getElem _
theorem lev_post {K : Fl → Ms → Sto → Prop} {a b : List Nat} {mc : Int} (ha : a.length ≤ 1000000) (hb : b.length ≤ 1000000) (h : Ex pw w S0 (levC c m L FO) (levB 7) [(0, .str (tx a)), (1, .str (tx b)), (2, .int mc), (4, .int (-(sufL a b : Int)))] σ K) :
    Ex pw w S0 (levC c m L FO) (levB 6) [(0, .str (tx a)), (1, .str (tx b)), (2, .int mc), (4, .int 0)] σ K := by
  refine ex_whl (fun n m0 τ0 => ∃ k : Nat, n = a.length - k ∧ k ≤ a.length ∧ k ≤ b.length ∧ m0 = [(0, .str (tx a)), (1, .str (tx b)), (2, .int mc), (4, .int (-(k : Int)))] ∧ σ = τ0 ∧ sufL a b = k + preL (a.reverse.drop k) (b.reverse.drop k)) a.length
    (m0 := [(0, .str (tx a)), (1, .str (tx b)), (2, .int mc), (4, .int (-((0 : Nat) : Int)))]) (σ0 := σ) (.of ⟨rfl, rfl, rfl, rfl, trivial⟩ (.refl _)) ⟨0, rfl, Nat.zero_le _, Nat.zero_le _, rfl, rfl, by simp [sufL]⟩ ?_
  rintro n _ _ ⟨k, rfl, hk, hk2, rfl, rfl, hp⟩
  have fin : sufL a b = k → Ex pw w S0 (levC c m L FO) (levB 7) [(0, .str (tx a)), (1, .str (tx b)), (2, .int mc), (4, .int (-(k : Int)))] σ K := fun e => by rw [← e]; exact h
  refine et_and ?_
  refine et_plain ?_ -- a[:post or None]
  refine ev_cutpost (a := a) (q := k) FO (fun K' hk => ev_loc (i := 0) rfl rfl rfl rfl hk) rfl hk ha ?_
  refine tru_tx (by simp; omega) ?_
  refine ⟨fun h1 => ?_, fun h1 => ⟨fun e => (nomatch e), fun _ => fin ?_⟩⟩
  rotate_left
  · have : a.take (a.length - k) = [] := Classical.not_not.mp (of_decide_eq_false h1)
    have hlen := congrArg List.length this
    rw [List.length_take] at hlen
    have hlen : a.length - k = 0 := by simpa using hlen
    rw [List.drop_eq_nil_of_le (by simp; omega)] at hp; simpa [preL] using hp
  have hka : k < a.length := by
    have : a.take (a.length - k) ≠ [] := of_decide_eq_true h1
    rcases Nat.lt_or_ge k a.length with h | h
    · exact h
    · exact absurd (by rw [Nat.sub_eq_zero_of_le h]; rfl) this
  refine et_and ?_
  refine et_plain ?_ -- b[:post or None]
  refine ev_cutpost (a := b) (q := k) FO (fun K' hk => ev_loc (i := 1) rfl rfl rfl rfl hk) rfl hk2 hb ?_
  refine tru_tx (by simp; omega) ?_
  refine ⟨fun h2 => ?_, fun h2 => ⟨fun e => (nomatch e), fun _ => fin ?_⟩⟩
  rotate_left
  · have : b.take (b.length - k) = [] := Classical.not_not.mp (of_decide_eq_false h2)
    have hlen := congrArg List.length this
    rw [List.length_take] at hlen
    have hlen : b.length - k = 0 := by simpa using hlen
    rw [List.drop_eq_nil_of_le (as := b.reverse) (by simp; omega)] at hp
    cases hd : a.reverse.drop k <;> rw [hd] at hp <;> simpa [preL] using hp
  have hkb : k < b.length := by
    have : b.take (b.length - k) ≠ [] := of_decide_eq_true h2
    rcases Nat.lt_or_ge k b.length with h | h
    · exact h
    · exact absurd (by rw [Nat.sub_eq_zero_of_le h]; rfl) this
  obtain ⟨x, hx, hx'⟩ := rev_get hka
  obtain ⟨y, hy, hy'⟩ := rev_get hkb
  have hstep := preL_drop a.reverse b.reverse k x y hx hy hp
  refine et_and ?_
  refine et_cmp ?_ -- a[post - 1] == b[post - 1]
  refine ev_sub ?_
  refine ev_loc (i := 0) rfl rfl rfl rfl ?_ -- a
  refine ev_bin ?_
  refine ev_loc (i := 4) rfl rfl rfl rfl ?_ -- post
  refine ev_int ?_ -- 1
  refine bin_sub ?_
  refine sub_str (cp := x) (fitsSsize_of (N := 9223372036854775808) (by omega) (by omega) (Int.le_refl _)) (charAt_tx (by omega) hx') ?_
  refine ev_sub ?_
  refine ev_loc (i := 1) rfl rfl rfl rfl ?_ -- b
  refine ev_bin ?_
  refine ev_loc (i := 4) rfl rfl rfl rfl ?_ -- post
  refine ev_int ?_ -- 1
  refine bin_sub ?_
  refine sub_str (cp := y) (fitsSsize_of (N := 9223372036854775808) (by omega) (by omega) (Int.le_refl _)) (charAt_tx (by omega) hy') ?_
  refine cmp_seq ?_
  refine tru_bool ?_
  rw [show ((⟨#[x]⟩ : Str) == ⟨#[y]⟩) = (x == y) from one_beq x y]
  refine ⟨fun h3 => ?_, fun h3 => ⟨fun e => (nomatch e), fun _ => fin ?_⟩⟩
  rotate_left
  · rw [if_neg (by simpa using h3)] at hstep; exact hstep
  rw [if_pos (eq_of_beq h3)] at hstep
  refine et_and_nil ?_
  refine ⟨fun _ => ?_, fun e => by cases e⟩
  -- post -= 1
  refine ex_aug ?_
  refine ld_loc (i := 4) rfl rfl rfl rfl ?_
  refine ev_int ?_ -- 1
  refine ibin_sub ?_
  refine sto_loc (i := 4) rfl rfl ?_ -- post
  refine ex_nil ⟨a.length - (k + 1), [(0, .str (tx a)), (1, .str (tx b)), (2, .int mc), (4, .int (-((k + 1 : Nat) : Int)))], σ, by omega, .of ⟨rfl, rfl, rfl, ?_, trivial⟩ (.refl _), k + 1, rfl, hka, hkb, rfl, rfl, hstep⟩
  show some (V.int (-(k : Int) - 1)) = _
  congr 2
  omega
end
end Mine
end

section
set_option maxRecDepth 100000
namespace Mine
noncomputable def bodyFor : Stmt → List Stmt
  | .For _ _ body .. => body
  | _ => []
noncomputable def levO (k : Nat) : List Stmt := (bodyFor ((levB 15).headD (.Pass ⟨0, 0, 0, 0⟩))).drop k
noncomputable def iV (l : List Int) : List V := l.map V.int
noncomputable def nV (n : Nat) : List V := (List.range n).map fun j : Nat => V.int (j : Int)
theorem range_nV (n : Nat) : (List.range n).map (fun j : Nat => V.int (0 + (j : Int) * 1)) = nV n := by
  apply List.map_congr_left; intro j _; simp
theorem nV_drop {n i : Nat} {x : V} {xs : List V} (h : x :: xs = (nV n).drop i) : i < n ∧ x = .int (i : Int) ∧ xs = (nV n).drop (i + 1) := by
  have hl := congrArg List.length h
  simp [nV] at hl
  have hlt : i < n := by omega
  have hlt' : i < (nV n).length := by simpa [nV] using hlt
  rw [List.drop_eq_getElem_cons hlt'] at h
  obtain ⟨e1, e2⟩ := List.cons.inj h
  refine ⟨hlt, ?_, e2⟩
  rw [e1]; simp [nV]
theorem nV_nil {n i : Nat} (h : [] = (nV n).drop i) : n ≤ i := by
  have hl := congrArg List.length h
  simp [nV] at hl
  omega
theorem nV_len (n : Nat) : (nV n).length = n := by simp [nV]
theorem small_nat (n : Nat) (h : n ≤ 1000000) : Builtin.Range.small 0 (n : Int) 1 = true := small_one (by decide) (by decide) (by omega) (by omega)
theorem size_nat (n : Nat) : Builtin.Range.rangeSize 0 (n : Int) 1 = n := by rw [rangeSize_one]; split <;> omega
theorem inner_len (bc : Nat) : ∀ (l : List (Nat × Int)) (d r mn : Int), (inner bc l d r mn).1.length = l.length
  | [], _, _, _ => rfl
  | (ac, rv) :: t, d, r, mn => by
    have := inner_len bc t rv (min (min r rv + 2) (d + (subC bc ac : Nat))) (if (min (min r rv + 2) (d + (subC bc ac : Nat))) < mn then (min (min r rv + 2) (d + (subC bc ac : Nat))) else mn)
    show (_ :: (inner bc t _ _ _).1).length = _
    rw [List.length_cons, this]; rfl
section
variable {w : World} {S0 : Shared} {c : Cx} {m mm : Ms} {σ : Sto} {mg mb : Str → Option Value}
variable {pm cd : Value} {L : Addr} (FO : FnOk S0 aLev (mkFd stLev "_levenshtein_distance" pm cd .none .none) (bodyOf stLev) (locals (scopeOf stLev)))

theorem lev_inner (H : Hd S0 mg mb) (hroom : c.A.depth + 1 < recursionLimit) {K : Fl → Ms → Sto → Prop} {p0 : Addr × O} {a b : List Nat} {mc : Int} {bc : Nat} {r : Addr} {row : List Int} {res d mn : Int} (ha : a.length ≤ 1000000) (hrow : row.length = a.length)
    (hoa : ∀ x ∈ a, Okc x) (hob : Okc bc)
    (h : Ex pw w S0 ((levC c m L FO).push p0) (levO 4) [(0, .str (tx a)), (1, .str (tx b)), (2, .int mc), (5, .ref r), (6, .int (inner bc (a.zip row) d res mn).2.1), (10, .int (inner bc (a.zip row) d res mn).2.2)]
      ((r, .list (iV (inner bc (a.zip row) d res mn).1)) :: σ) K) :
    Ex pw w S0 ((levC c m L FO).push p0) (levO 3) [(0, .str (tx a)), (1, .str (tx b)), (2, .int mc), (5, .ref r), (6, .int res), (8, .str (one bc)), (9, .int d), (10, .int mn)] ((r, .list (iV row)) :: σ) K := by
  refine ex_for ?_
  refine ev_call ?_ -- range(len(a))
  refine ev_blt H.B rfl rfl (by decide) H.no_range boot_range ?_
  refine ⟨kpr_type, ?_⟩
  refine evs_cons ?_
  refine ev_call ?_ -- len(a)
  refine ev_blt H.B rfl rfl (by decide) H.no_len boot_len ?_
  refine ⟨kpr_blt, ?_⟩
  refine evs_cons ?_
  refine ev_loc (i := 0) rfl rfl rfl rfl ?_ -- a
  refine evs_nil ?_
  refine cal_len_str (by rw [len_tx]; omega) ?_
  rw [len_tx]
  refine evs_nil ?_
  refine cal_range1 fun rr => ?_
  refine ⟨_, _, itb_range (small_nat _ ha) (size_nat _), ?_⟩
  rw [range_nV]
  generalize hz : inner bc (a.zip row) d res mn = z at h
  refine turns_gen (fun xs m0 T => ∃ (i : Nat) (done : List Int) (d res mn : Int), xs = (nV a.length).drop i ∧ i ≤ a.length ∧ done.length = i ∧
      m0 = [(0, .str (tx a)), (1, .str (tx b)), (2, .int mc), (5, .ref r), (6, .int res), (8, .str (one bc)), (9, .int d), (10, .int mn)] ∧ T = (rr, .rng 0 (a.length : Int) 1) :: (r, .list (iV (done ++ row.drop i))) :: σ ∧
      (done ++ (inner bc ((a.zip row).drop i) d res mn).1, (inner bc ((a.zip row).drop i) d res mn).2.1, (inner bc ((a.zip row).drop i) d res mn).2.2) = z) ?_ ?_ ?_ _ _ _
    ⟨0, [], d, res, mn, rfl, Nat.zero_le _, rfl, rfl, rfl, hz⟩
  · rintro xs _ _ ⟨i, done, d, res, mn, -, -, -, rfl, rfl, -⟩
    exact .tail _ (List.mem_append_right _ (.head _))
  · rintro x xs _ _ ⟨i, done, d, res, mn, hx, hi, hd, rfl, rfl, hI⟩ p
    obtain ⟨hlt, rfl, hxs⟩ := nV_drop hx
    obtain ⟨ac, hac⟩ : ∃ y, a[i]? = some y := ⟨_, List.getElem?_eq_getElem hlt⟩
    obtain ⟨rv, hrv⟩ : ∃ y, row[i]? = some y := ⟨_, List.getElem?_eq_getElem (by omega)⟩
    have hacm := List.mem_of_getElem? hac
    have hzd : (a.zip row).drop i = (ac, rv) :: (a.zip row).drop (i + 1) := by
      have hl : i < (a.zip row).length := by simp; omega
      rw [List.drop_eq_getElem_cons hl]
      congr 1
      obtain ⟨_, e1⟩ := List.getElem?_eq_some_iff.mp hac
      obtain ⟨_, e2⟩ := List.getElem?_eq_some_iff.mp hrv
      rw [List.getElem_zip, e1, e2]
    have hrd : row.drop i = rv :: row.drop (i + 1) := by
      obtain ⟨h1, e1⟩ := List.getElem?_eq_some_iff.mp hrv
      rw [List.drop_eq_getElem_cons h1, e1]
    have hget : (iV (done ++ row.drop i))[i]? = some (.int rv) := by
      unfold iV
      rw [List.getElem?_map, List.getElem?_append_right (by omega), hd, Nat.sub_self, hrd]; rfl
    have hlen : (iV (done ++ row.drop i)).length = a.length := by simp [iV]; omega
    rw [hzd] at hI
    refine asg_name (sto_loc (i := 11) rfl rfl ?_)
    -- substitute = distance + _substitution_cost(bchar, a[index])
    refine ex_assign ?_
    refine ev_bin ?_
    refine ev_loc (i := 9) rfl rfl rfl rfl ?_ -- distance
    refine ev_call ?_ -- _substitution_cost(bchar, a[index])
    refine ev_glob (V0 := .ref aSubst) H.B rfl rfl H.g_substitution_cost rfl ?_
    obtain ⟨_, _, FS⟩ := subst_ok H
    obtain ⟨os, hos, hds⟩ := FS.at_
    refine ⟨kpr_fn hos hds, ?_⟩
    refine evs_cons ?_
    refine ev_loc (i := 8) rfl rfl rfl rfl ?_ -- bchar
    refine evs_cons ?_
    refine ev_sub ?_
    refine ev_loc (i := 0) rfl rfl rfl rfl ?_ -- a
    refine ev_loc (i := 11) rfl rfl rfl rfl ?_ -- index
    refine sub_str (cp := ac) (fitsSsize_of (N := 9223372036854775808) (by omega) (by omega) (Int.le_refl _)) (charAt_tx (by omega) (by rw [ix_nat]; exact hac)) ?_
    refine evs_nil ?_
    refine subst H (by show c.A.depth + 1 < _; exact hroom) hob (hoa _ hacm) ?_
    refine bin_add ?_
    refine sto_loc (i := 12) rfl rfl ?_ -- substitute
    -- distance = row[index]
    refine ex_assign ?_
    refine ev_sub ?_
    refine ev_loc (i := 5) rfl rfl rfl rfl ?_ -- row
    refine ev_loc (i := 11) rfl rfl rfl rfl ?_ -- index
    refine sub_list (x := .int rv) (.tail _ (.head _)) (by omega) (by omega) (by omega) (by rw [ix_nat]; exact hget) ?_
    refine sto_loc (i := 9) rfl rfl ?_ -- distance
    -- insert_delete = min(result, distance) + _MOVE_COST
    refine ex_assign ?_
    refine ev_bin ?_
    refine ev_call ?_ -- min(result, distance)
    refine ev_blt H.B rfl rfl (by decide) H.no_min boot_min ?_
    refine ⟨kpr_blt, ?_⟩
    refine evs_cons ?_
    refine ev_loc (i := 6) rfl rfl rfl rfl ?_ -- result
    refine evs_cons ?_
    refine ev_loc (i := 9) rfl rfl rfl rfl ?_ -- distance
    refine evs_nil ?_
    refine cal_min2 ?_
    obtain ⟨t, ht'⟩ := H.g_MOVE_COST
    refine ev_glob (V0 := .int 2) H.B rfl rfl ht' ⟨_, rfl⟩ ?_
    refine bin_add ?_
    refine sto_loc (i := 13) rfl rfl ?_ -- insert_delete
    -- result = min(insert_delete, substitute)
    refine ex_assign ?_
    refine ev_call ?_ -- min(insert_delete, substitute)
    refine ev_blt H.B rfl rfl (by decide) H.no_min boot_min ?_
    refine ⟨kpr_blt, ?_⟩
    refine evs_cons ?_
    refine ev_loc (i := 13) rfl rfl rfl rfl ?_ -- insert_delete
    refine evs_cons ?_
    refine ev_loc (i := 12) rfl rfl rfl rfl ?_ -- substitute
    refine evs_nil ?_
    refine cal_min2 ?_
    refine sto_loc (i := 6) rfl rfl ?_ -- result
    -- row[index] = result
    refine ex_setitem ?_
    refine ev_loc (i := 6) rfl rfl rfl rfl ?_ -- result
    refine ev_loc (i := 5) rfl rfl rfl rfl ?_ -- row
    refine ev_loc (i := 11) rfl rfl rfl rfl ?_ -- index
    refine ⟨_, _, _, _, rfl, rfl, by omega, by rw [hlen]; omega, by rw [hlen]; omega, .tail .head, ?_⟩
    have hset : (iV (done ++ row.drop i)).set ((i : Int)).toNat (V.int (min (min res rv + 2) (d + (subC bc ac : Nat)))) = iV ((done ++ [min (min res rv + 2) (d + (subC bc ac : Nat))]) ++ row.drop (i + 1)) := by
      unfold iV
      rw [Int.toNat_natCast, hrd, ← List.map_set, List.set_append_right _ _ (by omega), hd, Nat.sub_self]
      simp
    rw [hset]
    -- if result < minimum:
    refine ex_if ?_
    refine et_cmp ?_ -- result < minimum
    refine ev_loc (i := 6) rfl rfl rfl rfl ?_ -- result
    refine ev_loc (i := 10) rfl rfl rfl rfl ?_ -- minimum
    refine cmp_lt ?_
    refine tru_bool ?_
    have hI' : ((done ++ [min (min res rv + 2) (d + (subC bc ac : Nat))]) ++ (inner bc ((a.zip row).drop (i + 1)) rv (min (min res rv + 2) (d + (subC bc ac : Nat))) (if min (min res rv + 2) (d + (subC bc ac : Nat)) < mn then min (min res rv + 2) (d + (subC bc ac : Nat)) else mn)).1,
        (inner bc ((a.zip row).drop (i + 1)) rv (min (min res rv + 2) (d + (subC bc ac : Nat))) (if min (min res rv + 2) (d + (subC bc ac : Nat)) < mn then min (min res rv + 2) (d + (subC bc ac : Nat)) else mn)).2.1,
        (inner bc ((a.zip row).drop (i + 1)) rv (min (min res rv + 2) (d + (subC bc ac : Nat))) (if min (min res rv + 2) (d + (subC bc ac : Nat)) < mn then min (min res rv + 2) (d + (subC bc ac : Nat)) else mn)).2.2) = z := by
      rw [← hI, List.append_assoc]; rfl
    generalize min (min res rv + 2) (d + (subC bc ac : Nat)) = r' at hI' ⊢
    refine ⟨fun ht => ?_, fun hf => ?_⟩
    · -- minimum = result
      refine ex_assign ?_
      refine ev_loc (i := 6) rfl rfl rfl rfl ?_ -- result
      refine sto_loc (i := 10) rfl rfl ?_ -- minimum
      rw [if_pos (of_decide_eq_true ht)] at hI'
      refine ex_nil (ex_nil ⟨[(0, .str (tx a)), (1, .str (tx b)), (2, .int mc), (5, .ref r), (6, .int r'), (8, .str (one bc)), (9, .int rv), (10, .int r')], _, .of ⟨rfl, rfl, rfl, rfl, rfl, rfl, rfl, rfl, trivial⟩ (.refl _), i + 1, done ++ [r'], rv, r', r', hxs, hlt, by simp [hd], rfl, rfl, hI'⟩)
    · rw [if_neg (of_decide_eq_false hf)] at hI'
      refine ex_nil (ex_nil ⟨[(0, .str (tx a)), (1, .str (tx b)), (2, .int mc), (5, .ref r), (6, .int r'), (8, .str (one bc)), (9, .int rv), (10, .int mn)], _, .of ⟨rfl, rfl, rfl, rfl, rfl, rfl, rfl, rfl, trivial⟩ (.refl _), i + 1, done ++ [r'], rv, r', mn, hxs, hlt, by simp [hd], rfl, rfl, hI'⟩)
  · rintro _ _ ⟨i, done, d, res, mn, hx, hi, hd, rfl, rfl, hI⟩
    have hi' : i = a.length := by have := nV_nil hx; omega
    subst hi'
    rw [List.drop_eq_nil_of_le (by simp; omega)] at hI
    rw [List.drop_eq_nil_of_le (by omega), List.append_nil]
    have e : z = (done, res, mn) := by rw [← hI]; simp [inner]
    rw [e] at h
    refine Ex.wk ?_ h
    exact .of ⟨rfl, rfl, rfl, rfl, rfl, rfl, trivial⟩ (.cons _ (.refl _))
end
end Mine
end

section
set_option maxRecDepth 100000
namespace Mine
section
variable {w : World} {S0 : Shared} {c : Cx} {m mm : Ms} {σ : Sto} {mg mb : Str → Option Value} {KV : V → Sto → Prop}
variable {pm cd : Value} {L : Addr} (FO : FnOk S0 aLev (mkFd stLev "_levenshtein_distance" pm cd .none .none) (bodyOf stLev) (locals (scopeOf stLev)))

theorem Ex.perm {cc : Cx} {ss : List Stmt} {σ' : Sto} {K : Fl → Ms → Sto → Prop} (h : σ.Perm σ') (k : Ex pw w S0 cc ss m σ' K) : Ex pw w S0 cc ss m σ K := Tr.weak (Imp.perm (.cons _ (.append_left _ h))) k
theorem size_row (n : Nat) : Builtin.Range.rangeSize 2 (2 * ((n : Int) + 1)) 2 = n := by
  unfold Builtin.Range.rangeSize
  simp only [show (2 : Int) > 0 by decide, if_true]
  split <;> omega
theorem fits_long {i : Int} (h : -1000000000 ≤ i) (h' : i ≤ 1000000000) : Builtin.Range.rangeFitsLong i = true := by
  unfold Builtin.Range.rangeFitsLong
  rw [Bool.and_eq_true, decide_eq_true_eq, decide_eq_true_eq]
  constructor <;> omega
theorem small_row (n : Nat) (h : n ≤ 1000000) : Builtin.Range.small 2 (2 * ((n : Int) + 1)) 2 = true := by
  unfold Builtin.Range.small
  rw [size_row, fits_long (by omega) (by omega), fits_long (by omega) (by omega), fits_long (by omega) (by omega), fits_long (by omega) (by omega)]
  rw [if_pos (by decide), Bool.or_true]
  rfl
theorem lev_outer (H : Hd S0 mg mb) (hroom : c.A.depth + 1 < recursionLimit) {a b : List Nat} {mc : Int} {r : Addr} (ha : a.length ≤ 1000000) (hb : b.length ≤ 1000000) (hoa : ∀ x ∈ a, Okc x) (hob : ∀ x ∈ b, Okc x)
    (h : KV (.int (outer a mc 0 b (row0 a.length) 0)) σ) :
    Ex pw w S0 (levC c m L FO) (levB 15) [(0, .str (tx a)), (1, .str (tx b)), (2, .int mc), (5, .ref r), (6, .int 0)] ((r, .list (iV (row0 a.length))) :: σ) (RetK S0 c m KV) := by
  obtain ⟨t2, ht2⟩ := H.g_MOVE_COST
  refine ex_for ?_
  refine ev_call ?_ -- range(len(b))
  refine ev_blt H.B rfl rfl (by decide) H.no_range boot_range ?_
  refine ⟨kpr_type, ?_⟩
  refine evs_cons ?_
  refine ev_call ?_ -- len(b)
  refine ev_blt H.B rfl rfl (by decide) H.no_len boot_len ?_
  refine ⟨kpr_blt, ?_⟩
  refine evs_cons ?_
  refine ev_loc (i := 1) rfl rfl rfl rfl ?_ -- b
  refine evs_nil ?_
  refine cal_len_str (by rw [len_tx]; omega) ?_
  rw [len_tx]
  refine evs_nil ?_
  refine cal_range1 fun rr => ?_
  refine ⟨_, _, itb_range (small_nat _ hb) (size_nat _), ?_⟩
  rw [range_nV]
  generalize hz : outer a mc 0 b (row0 a.length) 0 = z at h
  refine turns_gen (fun xs m0 T => ∃ (i : Nat) (row : List Int) (res : Int), xs = (nV b.length).drop i ∧ i ≤ b.length ∧ row.length = a.length ∧
      m0 = [(0, .str (tx a)), (1, .str (tx b)), (2, .int mc), (5, .ref r), (6, .int res)] ∧ T = (rr, .rng 0 (b.length : Int) 1) :: (r, .list (iV row)) :: σ ∧ outer a mc i (b.drop i) row res = z) ?_ ?_ ?_ _ _ _
    ?_
  · rintro xs _ _ ⟨i, row, res, -, -, -, rfl, rfl, -⟩
    exact .tail _ (List.mem_append_right _ (.head _))
  · rintro x xs _ _ ⟨i, row, res, hx, hi, hr, rfl, rfl, hI⟩ p
    obtain ⟨hlt, rfl, hxs⟩ := nV_drop hx
    obtain ⟨bc, hbc⟩ : ∃ y, b[i]? = some y := ⟨_, List.getElem?_eq_getElem hlt⟩
    have hbd : b.drop i = bc :: b.drop (i + 1) := by
      obtain ⟨h1, e1⟩ := List.getElem?_eq_some_iff.mp hbc
      rw [List.drop_eq_getElem_cons h1, e1]
    rw [hbd] at hI
    refine asg_name (sto_loc (i := 7) rfl rfl ?_)
    -- bchar = b[bindex]
    refine ex_assign ?_
    refine ev_sub ?_
    refine ev_loc (i := 1) rfl rfl rfl rfl ?_ -- b
    refine ev_loc (i := 7) rfl rfl rfl rfl ?_ -- bindex
    refine sub_str (cp := bc) (fitsSsize_of (N := 9223372036854775808) (by omega) (by omega) (Int.le_refl _)) (charAt_tx (by omega) (by rw [ix_nat]; exact hbc)) ?_
    refine sto_loc (i := 8) rfl rfl ?_ -- bchar
    -- distance = result = bindex * _MOVE_COST
    refine ex_assign2 ?_
    refine ev_bin ?_
    refine ev_loc (i := 7) rfl rfl rfl rfl ?_ -- bindex
    refine ev_glob (V0 := .int 2) H.B rfl rfl ht2 ⟨_, rfl⟩ ?_
    refine bin_mul (IntMulOk.of_right (by decide +kernel)) ?_
    refine sto_loc (i := 9) rfl rfl ?_ -- distance
    refine sto_loc (i := 6) rfl rfl ?_ -- result
    -- minimum = 9223372036854775807
    refine ex_assign ?_
    refine ev_int ?_ -- 9223372036854775807
    refine sto_loc (i := 10) rfl rfl ?_ -- minimum
    refine Ex.wk (m' := [(0, .str (tx a)), (1, .str (tx b)), (2, .int mc), (5, .ref r), (6, .int ((i : Int) * 2)), (8, .str (one bc)), (9, .int ((i : Int) * 2)), (10, .int maxI)]) (.of ⟨rfl, rfl, rfl, rfl, rfl, rfl, rfl, rfl, trivial⟩ (.refl _)) ?_
    refine Ex.perm (.swap ..) ?_
    refine lev_inner FO H hroom ha hr hoa (hob bc (List.mem_of_getElem? hbc)) ?_
    refine Ex.perm (.swap ..) ?_
    have hun : outer a mc i (bc :: b.drop (i + 1)) row res = if (inner bc (a.zip row) (2 * (i : Int)) (2 * (i : Int)) maxI).2.2 > mc then mc + 1 else outer a mc (i + 1) (b.drop (i + 1)) (inner bc (a.zip row) (2 * (i : Int)) (2 * (i : Int)) maxI).1 (inner bc (a.zip row) (2 * (i : Int)) (2 * (i : Int)) maxI).2.1 := rfl
    rw [hun, Int.mul_comm 2 (i : Int)] at hI
    have hil := inner_len bc (a.zip row) ((i : Int) * 2) ((i : Int) * 2) maxI
    generalize inner bc (a.zip row) ((i : Int) * 2) ((i : Int) * 2) maxI = y at hI hil ⊢
    -- if minimum > max_cost:
    refine ex_if ?_
    refine et_cmp ?_ -- minimum > max_cost
    refine ev_loc (i := 10) rfl rfl rfl rfl ?_ -- minimum
    refine ev_loc (i := 2) rfl rfl rfl rfl ?_ -- max_cost
    refine cmp_gt ?_
    refine tru_bool ?_
    refine ⟨fun ht => ?_, fun hf => ?_⟩
    · -- return max_cost + 1
      rw [if_pos (of_decide_eq_true ht)] at hI
      refine ex_ret ?_
      refine ev_bin ?_
      refine ev_loc (i := 2) rfl rfl rfl rfl ?_ -- max_cost
      refine ev_int ?_ -- 1
      refine bin_add ?_
      rw [← hI] at h
      exact ret_sub (m' := []) (.cons _ (.cons _ (.refl _))) h
    · rw [if_neg (of_decide_eq_false hf)] at hI
      exact ex_nil (ex_nil ⟨[(0, .str (tx a)), (1, .str (tx b)), (2, .int mc), (5, .ref r), (6, .int y.2.1)], _, .of ⟨rfl, rfl, rfl, rfl, rfl, trivial⟩ (.refl _), i + 1, y.1, y.2.1, hxs, hlt, by rw [hil]; simp; omega, rfl, rfl, hI⟩)
  · rintro _ _ ⟨i, row, res, hx, hi, hr, rfl, rfl, hI⟩
    have hi' : i = b.length := by have := nV_nil hx; omega
    subst hi'
    rw [List.drop_eq_nil_of_le (Nat.le_refl _)] at hI
    have e : res = z := hI
    subst e
    -- return result
    refine ex_ret ?_
    refine ev_loc (i := 6) rfl rfl rfl rfl ?_ -- result
    exact ret_sub (m' := []) (.cons _ (.cons _ (.refl _))) h
  · exact ⟨0, row0 a.length, 0, rfl, Nat.zero_le _, by simp [row0], rfl, rfl, hz⟩

/-- from the rows on -/
theorem lev_tail (H : Hd S0 mg mb) (hroom : c.A.depth + 1 < recursionLimit) {a b : List Nat} {mc : Int} (ha : a.length ≤ 1000000) (hb : b.length ≤ 1000000) (hoa : ∀ x ∈ a, Okc x) (hob : ∀ x ∈ b, Okc x)
    (h : KV (.int (levT a b mc)) σ) : Ex pw w S0 (levC c m L FO) (levB 12) [(0, .str (tx a)), (1, .str (tx b)), (2, .int mc)] σ (RetK S0 c m KV) := by
  obtain ⟨t2, ht2⟩ := H.g_MOVE_COST
  -- if (len(b) - len(a)) * _MOVE_COST > max_cost:
  refine ex_if ?_
  refine et_cmp ?_ -- (len(b) - len(a)) * _MOVE_COST > max_cost
  refine ev_bin ?_
  refine ev_bin ?_
  refine ev_call ?_ -- len(b)
  refine ev_blt H.B rfl rfl (by decide) H.no_len boot_len ?_
  refine ⟨kpr_blt, ?_⟩
  refine evs_cons ?_
  refine ev_loc (i := 1) rfl rfl rfl rfl ?_ -- b
  refine evs_nil ?_
  refine cal_len_str (by rw [len_tx]; omega) ?_
  refine ev_call ?_ -- len(a)
  refine ev_blt H.B rfl rfl (by decide) H.no_len boot_len ?_
  refine ⟨kpr_blt, ?_⟩
  refine evs_cons ?_
  refine ev_loc (i := 0) rfl rfl rfl rfl ?_ -- a
  refine evs_nil ?_
  refine cal_len_str (by rw [len_tx]; omega) ?_
  rw [len_tx, len_tx]
  refine bin_sub ?_
  refine ev_glob (V0 := .int 2) H.B rfl rfl ht2 ⟨_, rfl⟩ ?_
  refine bin_mul (IntMulOk.of_right (by decide +kernel)) ?_
  refine ev_loc (i := 2) rfl rfl rfl rfl ?_ -- max_cost
  refine cmp_gt ?_
  refine tru_bool ?_
  unfold levT at h
  refine ⟨fun ht => ?_, fun hf => ?_⟩
  · rw [if_pos (of_decide_eq_true ht)] at h
    -- return max_cost + 1
    refine ex_ret ?_
    refine ev_bin ?_
    refine ev_loc (i := 2) rfl rfl rfl rfl ?_ -- max_cost
    refine ev_int ?_ -- 1
    refine bin_add ?_
    exact ret_sub (m' := []) (.refl _) h
  rw [if_neg (of_decide_eq_false hf)] at h
  refine ex_nil ?_
  -- row = list(range(_MOVE_COST, _MOVE_COST * (len(a) + 1), _MOVE_COST))
  refine ex_assign ?_
  refine ev_call ?_ -- list(range(_MOVE_COST, _MOVE_COST * (len(a) + 1), _MOVE_COST))
  refine ev_blt H.B rfl rfl (by decide) H.no_list boot_list ?_
  refine ⟨kpr_type, ?_⟩
  refine evs_cons ?_
  refine ev_call ?_ -- range(_MOVE_COST, _MOVE_COST * (len(a) + 1), _MOVE_COST)
  refine ev_blt H.B rfl rfl (by decide) H.no_range boot_range ?_
  refine ⟨kpr_type, ?_⟩
  refine evs_cons ?_
  refine ev_glob (V0 := .int 2) H.B rfl rfl ht2 ⟨_, rfl⟩ ?_
  refine evs_cons ?_
  refine ev_bin ?_
  refine ev_glob (V0 := .int 2) H.B rfl rfl ht2 ⟨_, rfl⟩ ?_
  refine ev_bin ?_
  refine ev_call ?_ -- len(a)
  refine ev_blt H.B rfl rfl (by decide) H.no_len boot_len ?_
  refine ⟨kpr_blt, ?_⟩
  refine evs_cons ?_
  refine ev_loc (i := 0) rfl rfl rfl rfl ?_ -- a
  refine evs_nil ?_
  refine cal_len_str (by rw [len_tx]; omega) ?_
  rw [len_tx]
  refine ev_int ?_ -- 1
  refine bin_add ?_
  refine bin_mul (IntMulOk.of_left (by decide +kernel)) ?_
  refine evs_cons ?_
  refine ev_glob (V0 := .int 2) H.B rfl rfl ht2 ⟨_, rfl⟩ ?_
  refine evs_nil ?_
  refine cal_range3 (by decide) (PyProof.noPylong_small (by decide)) fun rr => ?_
  refine evs_nil ?_
  refine cal_list_range (n := a.length) (mem_st (.head _)) ?_ ?_ (by omega) fun r => ?_
  · exact small_row _ ha
  · exact size_row _
  refine sto_loc (i := 5) rfl rfl ?_ -- row
  -- result = 0
  refine ex_assign ?_
  refine ev_int ?_ -- 0
  refine sto_loc (i := 6) rfl rfl ?_ -- result
  have e : ((List.range a.length).map fun j : Nat => V.int (2 + (j : Int) * 2)) = iV (row0 a.length) := by unfold iV row0; rw [List.map_map]; rfl
  rw [e]
  refine Ex.wk (m' := [(0, .str (tx a)), (1, .str (tx b)), (2, .int mc), (5, .ref r), (6, .int 0)]) (.of ⟨rfl, rfl, rfl, rfl, rfl, trivial⟩ (.cons_cons _ (.cons _ (.refl _)))) ?_
  exact lev_outer FO H hroom ha hb hoa hob h
end
end Mine
end

section
set_option maxRecDepth 100000
namespace Mine
section
variable {w : World} {S0 : Shared} {c : Cx} {m mm : Ms} {σ : Sto} {mg mb : Str → Option Value} {KV : V → Sto → Prop}
section
variable {pm cd : Value} {L : Addr} (FO : FnOk S0 aLev (mkFd stLev "_levenshtein_distance" pm cd .none .none) (bodyOf stLev) (locals (scopeOf stLev)))
theorem lev_mid (H : Hd S0 mg mb) (hroom : c.A.depth + 1 < recursionLimit) {a b : List Nat} {mc : Int} (ha : a.length ≤ 1000000) (hb : b.length ≤ 1000000) (hoa : ∀ x ∈ a, Okc x) (hob : ∀ x ∈ b, Okc x)
    (h : KV (.int (levM a b mc)) σ) : Ex pw w S0 (levC c m L FO) (levB 9) [(0, .str (tx a)), (1, .str (tx b)), (2, .int mc)] σ (RetK S0 c m KV) := by
  obtain ⟨t2, ht2⟩ := H.g_MOVE_COST
  obtain ⟨t4, ht4⟩ := H.g_MAX_STRING_SIZE
  -- if not a or not b:
  have fin1 : a = [] ∨ b = [] → Ex pw w S0 (levC c m L FO) (match (levB 9).headD (.Pass ⟨0,0,0,0⟩) with | .If _ x _ _ => x | _ => []) [(0, .str (tx a)), (1, .str (tx b)), (2, .int mc)] σ (Then pw w S0 (levC c m L FO) (levB 10) (RetK S0 c m KV)) := fun e => by
    refine ex_ret ?_
    refine ev_bin ?_
    refine ev_glob (V0 := .int 2) H.B rfl rfl ht2 ⟨_, rfl⟩ ?_
    refine ev_bin ?_
    refine ev_call ?_ -- len(a)
    refine ev_blt H.B rfl rfl (by decide) H.no_len boot_len ?_
    refine ⟨kpr_blt, ?_⟩
    refine evs_cons ?_
    refine ev_loc (i := 0) rfl rfl rfl rfl ?_ -- a
    refine evs_nil ?_
    refine cal_len_str (by rw [len_tx]; omega) ?_
    refine ev_call ?_ -- len(b)
    refine ev_blt H.B rfl rfl (by decide) H.no_len boot_len ?_
    refine ⟨kpr_blt, ?_⟩
    refine evs_cons ?_
    refine ev_loc (i := 1) rfl rfl rfl rfl ?_ -- b
    refine evs_nil ?_
    refine cal_len_str (by rw [len_tx]; omega) ?_
    rw [len_tx, len_tx]
    refine bin_add ?_
    refine bin_mul (IntMulOk.of_left (by decide +kernel)) ?_
    unfold levM at h
    rw [if_pos e] at h
    exact ret_sub (m' := []) (.refl _) h
  refine ex_if ?_
  refine et_or ?_
  refine et_not ?_
  refine et_plain ?_ -- a
  refine ev_loc (i := 0) rfl rfl rfl rfl ?_ -- a
  refine tru_tx ha ?_
  refine ⟨fun h1 => ?_, fun h1 => ⟨fun _ => fin1 (.inl (Classical.not_not.mp (of_decide_eq_false (by simpa using h1)))), fun e => (nomatch e)⟩⟩
  have hane : a ≠ [] := of_decide_eq_true (by simpa using h1)
  refine et_or ?_
  refine et_not ?_
  refine et_plain ?_ -- b
  refine ev_loc (i := 1) rfl rfl rfl rfl ?_ -- b
  refine tru_tx hb ?_
  refine ⟨fun h2 => ?_, fun h2 => ⟨fun _ => fin1 (.inr (Classical.not_not.mp (of_decide_eq_false (by simpa using h2)))), fun e => (nomatch e)⟩⟩
  have hbne : b ≠ [] := of_decide_eq_true (by simpa using h2)
  refine et_or_nil ?_
  refine ⟨fun e => (nomatch e), fun _ => ?_⟩
  refine ex_nil ?_
  have hlm : levM a b mc = if a.length > 40 ∨ b.length > 40 then mc + 1 else if b.length < a.length then levT b a mc else levT a b mc := by
    unfold levM; rw [if_neg (by simp [hane, hbne])]
  rw [hlm] at h
  -- if len(a) > _MAX_STRING_SIZE or len(b) > _MAX_STRING_SIZE:
  have fin2 : a.length > 40 ∨ b.length > 40 → Ex pw w S0 (levC c m L FO) (match (levB 10).headD (.Pass ⟨0,0,0,0⟩) with | .If _ x _ _ => x | _ => []) [(0, .str (tx a)), (1, .str (tx b)), (2, .int mc)] σ (Then pw w S0 (levC c m L FO) (levB 11) (RetK S0 c m KV)) := fun e => by
    refine ex_ret ?_
    refine ev_bin ?_
    refine ev_loc (i := 2) rfl rfl rfl rfl ?_ -- max_cost
    refine ev_int ?_ -- 1
    refine bin_add ?_
    rw [if_pos e] at h
    exact ret_sub (m' := []) (.refl _) h
  refine ex_if ?_
  refine et_or ?_
  refine et_cmp ?_ -- len(a) > _MAX_STRING_SIZE
  refine ev_call ?_ -- len(a)
  refine ev_blt H.B rfl rfl (by decide) H.no_len boot_len ?_
  refine ⟨kpr_blt, ?_⟩
  refine evs_cons ?_
  refine ev_loc (i := 0) rfl rfl rfl rfl ?_ -- a
  refine evs_nil ?_
  refine cal_len_str (by rw [len_tx]; omega) ?_
  rw [len_tx]
  refine ev_glob (V0 := .int 40) H.B rfl rfl ht4 ⟨_, rfl⟩ ?_
  refine cmp_gt ?_
  refine tru_bool ?_
  refine ⟨fun h3 => ?_, fun h3 => ⟨fun _ => fin2 (.inl (by have := of_decide_eq_true h3; omega)), fun e => (nomatch e)⟩⟩
  have h3 := of_decide_eq_false h3
  refine et_or ?_
  refine et_cmp ?_ -- len(b) > _MAX_STRING_SIZE
  refine ev_call ?_ -- len(b)
  refine ev_blt H.B rfl rfl (by decide) H.no_len boot_len ?_
  refine ⟨kpr_blt, ?_⟩
  refine evs_cons ?_
  refine ev_loc (i := 1) rfl rfl rfl rfl ?_ -- b
  refine evs_nil ?_
  refine cal_len_str (by rw [len_tx]; omega) ?_
  rw [len_tx]
  refine ev_glob (V0 := .int 40) H.B rfl rfl ht4 ⟨_, rfl⟩ ?_
  refine cmp_gt ?_
  refine tru_bool ?_
  refine ⟨fun h4 => ?_, fun h4 => ⟨fun _ => fin2 (.inr (by have := of_decide_eq_true h4; omega)), fun e => (nomatch e)⟩⟩
  have h4 := of_decide_eq_false h4
  refine et_or_nil ?_
  refine ⟨fun e => (nomatch e), fun _ => ?_⟩
  refine ex_nil ?_
  rw [if_neg (by omega)] at h
  -- if len(b) < len(a):
  refine ex_if ?_
  refine et_cmp ?_ -- len(b) < len(a)
  refine ev_call ?_ -- len(b)
  refine ev_blt H.B rfl rfl (by decide) H.no_len boot_len ?_
  refine ⟨kpr_blt, ?_⟩
  refine evs_cons ?_
  refine ev_loc (i := 1) rfl rfl rfl rfl ?_ -- b
  refine evs_nil ?_
  refine cal_len_str (by rw [len_tx]; omega) ?_
  refine ev_call ?_ -- len(a)
  refine ev_blt H.B rfl rfl (by decide) H.no_len boot_len ?_
  refine ⟨kpr_blt, ?_⟩
  refine evs_cons ?_
  refine ev_loc (i := 0) rfl rfl rfl rfl ?_ -- a
  refine evs_nil ?_
  refine cal_len_str (by rw [len_tx]; omega) ?_
  rw [len_tx, len_tx]
  refine cmp_lt ?_
  refine tru_bool ?_
  refine ⟨fun ht => ?_, fun hf => ?_⟩
  · rw [if_pos (by have := of_decide_eq_true ht; omega)] at h
    -- a, b = (b, a)
    refine ex_swap (n1 := "a") (n2 := "b") ?_
    refine ev_tuple ?_
    refine evs_cons ?_
    refine ev_loc (i := 1) rfl rfl rfl rfl ?_ -- b
    refine evs_cons ?_
    refine ev_loc (i := 0) rfl rfl rfl rfl ?_ -- a
    refine evs_nil ?_
    refine ⟨sz (by simp), fun tp => ?_⟩
    refine ⟨_, _, _, rfl, mem_st (.head _), ?_⟩
    refine sto_loc (i := 1) rfl rfl ?_
    refine sto_loc (i := 0) rfl rfl ?_
    refine ex_nil ?_
    refine Ex.wk (m' := [(0, .str (tx b)), (1, .str (tx a)), (2, .int mc)]) (.of ⟨rfl, rfl, rfl, trivial⟩ (.cons _ (.refl _))) ?_
    exact lev_tail FO H hroom hb ha hob hoa h
  · rw [if_neg (by have := of_decide_eq_false hf; omega)] at h
    refine ex_nil ?_
    exact lev_tail FO H hroom ha hb hoa hob h
end

theorem lev (H : Hd S0 mg mb) (hroom : c.A.depth + 1 < recursionLimit) {a b : List Nat} {mc : Int} (ha : a.length ≤ 1000000) (hb : b.length ≤ 1000000) (hoa : ∀ x ∈ a, Okc x) (hob : ∀ x ∈ b, Okc x)
    (h : KV (.int (levF a b mc)) σ) : Cal pw w S0 c m σ (.ref aLev) [.str (tx a), .str (tx b), .int mc] [] KV := by
  obtain ⟨pm, cd, FO⟩ := lev_ok H
  refine cal_def H.B FO (by omega) (binds_pos (ns := ["a", "b", "max_cost"]) rfl (fun vs hv => ?_) ⟨by rfl, fun L => ?_⟩)
  · obtain ⟨v, u, t, rfl⟩ := len3 hv
    rfl
  -- if a == b:
  refine ex_if ?_
  refine et_cmp ?_ -- a == b
  refine ev_loc (i := 0) rfl rfl rfl rfl ?_ -- a
  refine ev_loc (i := 1) rfl rfl rfl rfl ?_ -- b
  refine cmp_seq ?_
  refine tru_bool ?_
  rw [tx_beq]
  unfold levF at h
  refine ⟨fun ht => ?_, fun hf => ?_⟩
  · -- return 0
    rw [if_pos (eq_of_beq ht)] at h
    refine ex_ret ?_
    refine ev_int ?_ -- 0
    exact ret_sub (m' := []) (.refl _) h
  rw [if_neg (beq_eq_false_iff_ne.mp hf)] at h
  refine ex_nil ?_
  -- pre = 0
  refine ex_assign ?_
  refine ev_int ?_ -- 0
  refine sto_loc (i := 3) rfl rfl ?_ -- pre
  refine Ex.wk (m' := [(3, .int 0), (0, .str (tx a)), (1, .str (tx b)), (2, .int mc)]) (.of ⟨rfl, rfl, rfl, rfl, trivial⟩ (.refl _)) ?_
  refine lev_pre FO ha hb ?_
  obtain ⟨hp1, hp2⟩ := preL_le a b
  generalize preL a b = p at h hp1 hp2 ⊢
  -- a = a[pre:]
  refine ex_assign ?_
  refine ev_sslice ?_
  refine ev_loc (i := 0) rfl rfl rfl rfl ?_ -- a
  refine pt_some ?_
  refine ev_loc (i := 3) rfl rfl rfl rfl ?_ -- pre
  refine .inl ⟨_, rfl, ?_⟩
  refine pt_none ?_
  refine ⟨_, rfl, sz (by rw [len_tx]; exact ha), ?_⟩
  rw [slice_tx, cut_from]
  refine sto_loc (i := 0) rfl rfl ?_ -- a
  -- b = b[pre:]
  refine ex_assign ?_
  refine ev_sslice ?_
  refine ev_loc (i := 1) rfl rfl rfl rfl ?_ -- b
  refine pt_some ?_
  refine ev_loc (i := 3) rfl rfl rfl rfl ?_ -- pre
  refine .inl ⟨_, rfl, ?_⟩
  refine pt_none ?_
  refine ⟨_, rfl, sz (by rw [len_tx]; exact hb), ?_⟩
  rw [slice_tx, cut_from]
  refine sto_loc (i := 1) rfl rfl ?_ -- b
  -- post = 0
  refine ex_assign ?_
  refine ev_int ?_ -- 0
  refine sto_loc (i := 4) rfl rfl ?_ -- post
  have ha' : (a.drop p).length ≤ 1000000 := by simp; omega
  have hb' : (b.drop p).length ≤ 1000000 := by simp; omega
  have hoa' : ∀ x ∈ a.drop p, Okc x := fun x hx => hoa x (List.mem_of_mem_drop hx)
  have hob' : ∀ x ∈ b.drop p, Okc x := fun x hx => hob x (List.mem_of_mem_drop hx)
  generalize a.drop p = a' at h ha' hoa' ⊢
  generalize b.drop p = b' at h hb' hob' ⊢
  refine Ex.wk (m' := [(0, .str (tx a')), (1, .str (tx b')), (2, .int mc), (4, .int 0)]) (.of ⟨rfl, rfl, rfl, rfl, trivial⟩ (.refl _)) ?_
  refine lev_post FO ha' hb' ?_
  have hq1 : sufL a' b' ≤ a'.length := by have := (preL_le a'.reverse b'.reverse).1; simpa [sufL] using this
  have hq2 : sufL a' b' ≤ b'.length := by have := (preL_le a'.reverse b'.reverse).2; simpa [sufL] using this
  unfold levS2 at h
  generalize sufL a' b' = q at h hq1 hq2 ⊢
  -- a = a[:post or None]
  refine ex_assign ?_
  refine ev_cutpost (a := a') (q := q) FO (fun K' hk => ev_loc (i := 0) rfl rfl rfl rfl hk) rfl hq1 ha' ?_
  refine sto_loc (i := 0) rfl rfl ?_ -- a
  -- b = b[:post or None]
  refine ex_assign ?_
  refine ev_cutpost (a := b') (q := q) FO (fun K' hk => ev_loc (i := 1) rfl rfl rfl rfl hk) rfl hq2 hb' ?_
  refine sto_loc (i := 1) rfl rfl ?_ -- b
  refine Ex.wk (m' := [(0, .str (tx (a'.take (a'.length - q)))), (1, .str (tx (b'.take (b'.length - q)))), (2, .int mc)]) (.of ⟨rfl, rfl, rfl, trivial⟩ (.refl _)) ?_
  exact lev_mid FO H hroom (by simp; omega) (by simp; omega) (fun x hx => hoa' x (List.mem_of_mem_take hx)) (fun x hx => hob' x (List.mem_of_mem_take hx)) h
end
end Mine
end

section
set_option maxRecDepth 100000
namespace Mine
noncomputable def aInit : Addr := 63
noncomputable def aInitD : Addr := 56
noncomputable def aConv : Addr := 70
noncomputable def aItems : Addr := 135
noncomputable def aSetd : Addr := 161
noncomputable def aGet : Addr := 118
noncomputable def aGetD : Addr := 111
noncomputable def aKeys : Addr := 123
noncomputable def aNameRe : Addr := 43
noncomputable def aValueRe : Addr := 48
noncomputable def nameCode : Array Nat := #[14, 10, 4, 1, 1, 22, 0, 31, 16, 127, 0, 13, 7, 22, 0, 31, 16, 127, 0, 1]
noncomputable def valueCode : Array Nat := #[14, 14, 4, 1, 1, 9, 4294966783, 0, 0, 2147483648, 0, 0, 0, 0, 0, 13, 11, 9, 4294966783, 0, 0, 2147483648, 0, 0, 0, 0, 0, 1]
theorem head_name : Head4 nameCode := by unfold Head4; decide
theorem head_value : Head4 valueCode := by unfold Head4; decide
/-- signs that no header refuses -/
noncomputable def Fine (l : List Nat) : Prop := ∀ c ∈ l, 32 ≤ c ∧ c ≠ 127
theorem unmet_name {l : List Nat} (h : Fine l) : Unmet nameCode (tx l).cps := fun c hc seen => by
  have hc : c ∈ l := by simpa [tx] using hc
  obtain ⟨h1, h2⟩ := h c hc
  have a1 : (decide (0 ≤ c) && decide (c ≤ 31)) = false := by simp; omega
  have a2 : (c == 127) = false := beq_eq_false_iff_ne.mpr h2
  refine ⟨((seen.add 22).add 16).add 0, ?_⟩
  show Sre.inSet nameCode c 20 5 true seen = _
  have s1 : Sre.inSet nameCode c 20 5 true seen = if (decide (0 ≤ c) && decide (c ≤ 31)) = true then .ok (true, seen.add 22) else Sre.inSet nameCode c 19 8 true (seen.add 22) := rfl
  have s2 : Sre.inSet nameCode c 19 8 true (seen.add 22) = if (c == 127) = true then .ok (true, (seen.add 22).add 16) else Sre.inSet nameCode c 18 10 true ((seen.add 22).add 16) := rfl
  rw [s1, a1, if_neg (by decide), s2, a2, if_neg (by decide)]
  rfl
theorem value_bits : ∀ c : Fin 256, 32 ≤ c.1 → c.1 ≠ 127 → (valueCode.getD (5 + (1 + c.1 / 32)) 0).testBit (c.1 % 32) = false := by decide +kernel
theorem unmet_value {l : List Nat} (h : Fine l) : Unmet valueCode (tx l).cps := fun c hc seen => by
  have hc : c ∈ l := by simpa [tx] using hc
  obtain ⟨h1, h2⟩ := h c hc
  have a1 : (decide (c < 256) && (valueCode.getD (5 + (1 + c / 32)) 0).testBit (c % 32)) = false := by
    by_cases hlt : c < 256
    · rw [value_bits ⟨c, hlt⟩ h1 h2, Bool.and_false]
    · rw [decide_eq_false hlt, Bool.false_and]
  refine ⟨(seen.add 9).add 0, ?_⟩
  show Sre.inSet valueCode c 28 5 true seen = _
  have s1 : Sre.inSet valueCode c 28 5 true seen = if (decide (c < 256) && (valueCode.getD (5 + (1 + c / 32)) 0).testBit (c % 32)) = true then .ok (true, seen.add 9) else Sre.inSet valueCode c 27 14 true (seen.add 9) := rfl
  rw [s1, a1, if_neg (by decide)]
  rfl

/-- what the class of the headers needs -/
structure Hc (S0 : Shared) (Kf : Frag) (mg mb : Str → Option Value) : Prop where
  H : Hd S0 mg mb
  ck : ClsOk S0 Kf aClass
  g_Headers : mg "Headers" = some (.ref aClass)
  g_name_re : mg "_name_disallowed_re" = some (.ref aNameRe)
  g_value_re : mg "_value_disallowed_re" = some (.ref aValueRe)
  re_name : IsRe S0.heap aNameRe nameCode
  re_value : IsRe S0.heap aValueRe valueCode
  sys : ∃ o, S0.heap.get? sysModules = some o
  c_init : findIn Kf (.ref aClass) "__init__" = some (some (.ref aInit))
  t_init : typeIn Kf (.ref aInit) = some (.type "function")
  c_conv : findIn Kf (.ref aClass) "_convert_string_type" = some (some (.ref aConv))
  t_conv : typeIn Kf (.ref aConv) = some (.type "function")
  c_keys : findIn Kf (.ref aClass) "keys" = some (some (.ref aKeys))
  t_keys : typeIn Kf (.ref aKeys) = some (.type "function")
  c_get : findIn Kf (.ref aClass) "get" = some (some (.ref aGet))
  t_get : typeIn Kf (.ref aGet) = some (.type "function")
  c_items : findIn Kf (.ref aClass) "items" = some (some (.ref aItems))
  t_items : typeIn Kf (.ref aItems) = some (.type "function")
  c_setd : findIn Kf (.ref aClass) "setdefault" = some (some (.ref aSetd))
  t_setd : typeIn Kf (.ref aSetd) = some (.type "function")
  c_hdr : findIn Kf (.ref aClass) "_headers" = some .none
  k_hdr : takerIn Kf aClass "_headers" = some .none
  f_init : FnAt S0 aInit (meth 0) "Headers.__init__" (.ref aInitD) .none
  d_init : ∃ n, S0.heap.get? aInitD = some ⟨.type "tuple", .none, .seq #[.none] n, #[]⟩
  f_conv : FnAt S0 aConv (meth 1) "Headers._convert_string_type" .none .none
  f_get : FnAt S0 aGet (meth 8) "Headers.get" (.ref aGetD) .none
  d_get : ∃ n, S0.heap.get? aGetD = some ⟨.type "tuple", .none, .seq #[.none] n, #[]⟩
  f_keys : FnAt S0 aKeys (meth 9) "Headers.keys" .none .none
  f_items : FnAt S0 aItems (meth 11) "Headers.items" .none .none
  f_setd : FnAt S0 aSetd (meth 15) "Headers.setdefault" .none .none

section
variable {w : World} {S0 : Shared} {Kf : Frag} {c : Cx} {m : Ms} {σ : Sto} {K : V → Sto → Prop} {mg mb : Str → Option Value}

theorem FnAt.kpr {a : Addr} {st : Stmt} {q : Str} {dV kV : Value} (h : FnAt S0 a st q dV kV) : Kpr pw w S0 (.ref a) := by
  obtain ⟨o, pm, cd, ho, hd, _⟩ := h.ex
  exact kpr_fn ho hd

/- _convert_string_type -/
theorem conv_ok (H : Hc S0 Kf mg mb) : ∃ pm cd, FnOk S0 aConv (mkFd (meth 1) "Headers._convert_string_type" pm cd .none .none) (bodyOf (meth 1)) (locals (scopeOf (meth 1))) :=
  H.f_conv.ok (fun _ _ => ⟨rfl, rfl, rfl, rfl, rfl, rfl, rfl⟩) rfl rfl rfl (by decide +kernel) (by decide +kernel) (by decide +kernel)
theorem conv (H : Hc S0 Kf mg mb) (hroom : c.A.depth < recursionLimit) {x : Addr} {l : List Nat} {b : Bool} (hl : Fine l) (hs : l.length ≤ 1000000) (h : K (.str (tx l)) σ) : Cal pw w S0 c m σ (.ref aConv) [.ref x, .str (tx l)] [("name", .bool b)] K := by
  obtain ⟨pm, cd, FO⟩ := conv_ok H
  refine cal_def H.H.B FO hroom (binds_of fun vs ks hv hk => ?_)
  obtain ⟨v, u, rfl, hv1, hv2⟩ := hv.two
  obtain ⟨k, rfl, hk1⟩ := RzL.one (x := .bool b) hk
  refine ⟨_, [("self", .ref x), ("value", .str (tx l)), ("name", .bool b)], rfl, rfl, ⟨hv1, hv2, hk1, trivial⟩, by rfl, fun L => ?_⟩
  -- if type(value) is str:
  refine ex_if ?_
  refine et_cmp ?_ -- type(value) is str
  refine ev_call ?_ -- type(value)
  refine ev_blt H.H.B rfl rfl (by decide) H.H.no_type boot_type ?_
  refine ⟨kpr_type, ?_⟩
  refine evs_cons ?_
  refine ev_loc (i := 1) rfl rfl rfl rfl ?_ -- value
  refine evs_nil ?_
  refine cal_type_str ?_
  refine ev_blt H.H.B rfl rfl (by decide) H.H.no_str boot_str ?_
  refine cmp_is_ty ?_
  refine tru_bool ?_
  refine ⟨fun ht => ?_, fun hf => by simp at hf⟩
  -- regex = _name_disallowed_re if name else _value_disallowed_re
  refine ex_assign ?_
  refine ev_if ?_ -- _name_disallowed_re if name else _value_disallowed_re
  refine et_plain ?_ -- name
  refine ev_loc (i := 2) rfl rfl rfl rfl ?_ -- name
  refine tru_bool ?_
  have tail : ∀ (a : Addr) (code : Array Nat) (m' : Ms), IsRe S0.heap a code → Head4 code → Unmet code (tx l).cps →
      Ex pw w S0 (c.into m (mkFd (meth 1) "Headers._convert_string_type" pm cd .none .none) aConv L (locals (scopeOf (meth 1))) FO.kind FO.glob FO.blt FO.nd)
        ((match (bodyOf (meth 1)).headD (.Pass ⟨0, 0, 0, 0⟩) with | .If _ x _ _ => x | _ => []).drop 1)
        [(3, .ref a), (1, .str (tx l))] σ (Then pw w S0 (c.into m (mkFd (meth 1) "Headers._convert_string_type" pm cd .none .none) aConv L (locals (scopeOf (meth 1))) FO.kind FO.glob FO.blt FO.nd) ((bodyOf (meth 1)).drop 1) (RetK S0 c m K)) := fun a code m' hre h4 hu => by
    -- if regex.search(value):
    refine ex_if ?_
    refine et_plain ?_ -- regex.search(value)
    refine ev_meth ?_ -- regex.search(value)
    refine ev_loc (i := 3) rfl rfl rfl rfl ?_ -- regex
    refine mth_search hre ?_
    refine ⟨kpr_blt, ?_⟩
    refine evs_cons ?_
    refine ev_loc (i := 1) rfl rfl rfl rfl ?_ -- value
    refine evs_nil ?_
    refine cal_search hre h4 hu (sz (by rw [len_tx]; exact hs)) ?_
    refine tru_none ?_
    refine ⟨fun e => (nomatch e), fun _ => ?_⟩
    refine ex_nil ?_
    -- return value
    refine ex_ret ?_
    refine ev_loc (i := 1) rfl rfl rfl rfl ?_ -- value
    exact ret_sub (m' := []) (.refl _) h
  refine ⟨fun ht => ?_, fun hf => ?_⟩
  · refine ev_glob (V0 := .ref aNameRe) H.H.B rfl rfl H.g_name_re rfl ?_
    refine sto_loc (i := 3) rfl rfl ?_ -- regex
    exact Ex.wk (m' := [(3, .ref aNameRe), (1, .str (tx l))]) (.of ⟨rfl, rfl, trivial⟩ (.refl _)) (tail _ _ m H.re_name head_name (unmet_name hl))
  · refine ev_glob (V0 := .ref aValueRe) H.H.B rfl rfl H.g_value_re rfl ?_
    refine sto_loc (i := 3) rfl rfl ?_ -- regex
    exact Ex.wk (m' := [(3, .ref aValueRe), (1, .str (tx l))]) (.of ⟨rfl, rfl, trivial⟩ (.refl _)) (tail _ _ m H.re_value head_value (unmet_value hl))
end
end Mine
end

section
set_option maxRecDepth 100000
namespace Mine
/-- a row of the table: where its tuple lies, its name, its value -/
noncomputable abbrev Row := Addr × List Nat × List Nat
noncomputable def rowO (t : Row) : Addr × O := (t.1, .tuple [.str (tx t.2.1), .str (tx t.2.2)])
noncomputable def Tb (x d hl : Addr) (tbl : List Row) : Sto := (x, .inst aClass d) :: (d, .idict "_headers" (.ref hl)) :: (hl, .list (tbl.map fun t => V.ref t.1)) :: tbl.map rowO
section
variable {w : World} {S0 : Shared} {Kf : Frag} {c : Cx} {m : Ms} {σ : Sto} {K : V → Sto → Prop} {mg mb : Str → Option Value}

theorem ccal_def {a : Addr} {fd : FuncData} {body : List Stmt} {names : List Str} {xs : List V} (B : Bs S0 mg mb) (FO : FnOk S0 a fd body names) (hroom : c.A.depth < recursionLimit)
    (h : Binds pw w S0 c m σ fd xs [] fun bxs σ' => (bxs.all fun x => fd.scope.names.lookup x.1 == some .local || (fd.scope.names.lookup x.1 == some .cell && ((cellsFrom 0 fd.scope.names []).map (·.1)).contains x.1)) = true ∧
      ∀ L, Ex pw w S0 (c.into m fd a L names FO.kind FO.glob FO.blt FO.nd) body (bindMs (fun n => fd.scope.names.lookup n) names bxs [])
        (cellObjs (cellsFrom (L + 1) fd.scope.names []) (bindCs (fun n => fd.scope.names.lookup n) bxs fun _ => .none) ++ σ') (RetK S0 c m K)) : CCal pw w S0 c m σ (.ref a) xs K := fun fv vs hf hv s R Rr k => by
  obtain rfl : fv = .ref a := hf
  exact code_def (kws := []) (ks := []) B FO hroom h hv trivial R k

/- __init__ -/
theorem init_ok (H : Hc S0 Kf mg mb) : ∃ pm cd, FnOk S0 aInit (mkFd (meth 0) "Headers.__init__" pm cd (.ref aInitD) .none) (bodyOf (meth 0)) (locals (scopeOf (meth 0))) :=
  H.f_init.ok (fun _ _ => ⟨rfl, rfl, rfl, rfl, rfl, rfl, rfl⟩) rfl rfl rfl (by decide +kernel) (by decide +kernel) (by decide +kernel)
theorem init (H : Hc S0 Kf mg mb) (hroom : c.A.depth < recursionLimit) {x d : Addr} (h : ∀ hl, K .none (Tb x d hl [] ++ σ)) : CCal pw w S0 c m ((x, .inst aClass d) :: (d, .edict) :: σ) (.ref aInit) [.ref x] K := by
  obtain ⟨pm, cd, FO⟩ := init_ok H
  obtain ⟨n, hT⟩ := H.d_init
  refine ccal_def H.H.B FO hroom (binds_dflt (T := aInitD) hT rfl rfl fun vs ks hv hk => ?_)
  obtain ⟨v, rfl, hv1⟩ := hv.one
  cases ks with
  | cons => exact hk.elim
  | nil =>
  refine ⟨_, [("self", .ref x), ("headers", .none)], _, rfl, rfl, rfl, ⟨hv1, rfl, trivial⟩, by rfl, fun L => ?_⟩
  -- headers = headers if headers is not None else []
  refine ex_assign ?_
  refine ev_if ?_ -- headers if headers is not None else []
  refine et_cmp ?_ -- headers is not None
  refine ev_loc (i := 1) rfl rfl rfl rfl ?_ -- headers
  refine ev_none ?_
  refine cmp_isnot_none nn_none ?_
  refine tru_bool ?_
  refine ⟨fun e => (nomatch e), fun _ => ?_⟩
  refine ev_list ?_
  refine evs_nil ?_
  refine ⟨sz (by simp), fun hl => ?_⟩
  refine sto_loc (i := 1) rfl rfl ?_ -- headers
  -- if type(headers) is not list:
  refine ex_if ?_
  refine et_cmp ?_ -- type(headers) is not list
  refine ev_call ?_ -- type(headers)
  refine ev_blt H.H.B rfl rfl (by decide) H.H.no_type boot_type ?_
  refine ⟨kpr_type, ?_⟩
  refine evs_cons ?_
  refine ev_loc (i := 1) rfl rfl rfl rfl ?_ -- headers
  refine evs_nil ?_
  refine cal_type_list (mem_st (.head _)) ?_
  refine ev_blt H.H.B rfl rfl (by decide) H.H.no_list boot_list ?_
  refine cmp_isnot_ty ?_
  refine tru_bool ?_
  refine ⟨fun e => by simp at e, fun _ => ?_⟩
  refine ex_nil ?_
  -- self._headers = headers
  refine ex_setattr (Kf := Kf) ?_
  refine ev_loc (i := 1) rfl rfl rfl rfl ?_ -- headers
  refine ev_loc (i := 0) rfl rfl rfl rfl ?_ -- self
  refine ⟨x, aClass, d, _, rfl, mem_st (.tail _ (.head _)), .tail (.tail .head), H.ck, H.k_hdr, ?_⟩
  -- if __debug__:
  refine ex_if ?_
  refine et_plain ?_ -- __debug__
  refine ev_bool ?_
  refine tru_bool ?_
  refine ⟨fun _ => ?_, fun e => (nomatch e)⟩
  -- for k, v in headers:
  refine ex_for ?_
  refine ev_loc (i := 1) rfl rfl rfl rfl ?_ -- headers
  refine ⟨[], _, itb_list, ?_⟩
  refine ⟨mem_st (.head _), ?_⟩
  refine ex_nil (ex_nil ?_)
  refine ⟨Tb x d hl [] ++ σ, Imp.perm (.cons _ (.append_left _ ?_)), h hl⟩
  show List.Perm ((hl, O.list []) :: (x, .inst aClass d) :: (d, .idict "_headers" (.ref hl)) :: σ) ((x, .inst aClass d) :: (d, .idict "_headers" (.ref hl)) :: (hl, .list []) :: σ)
  exact (List.Perm.swap ..).trans (.cons _ (.swap ..))
/-- Headers() -/
theorem mk_headers (H : Hc S0 Kf mg mb) (hroom : c.A.depth + 1 < recursionLimit) (h : ∀ x d hl, K (.ref x) (Tb x d hl [] ++ σ)) : Cal pw w S0 c m σ (.ref aClass) [] [] K :=
  cal_make H.ck H.c_init H.t_init fun x d => init H (by
    show (c.A.under _).depth < _
    have : (c.A.under (.builtin "type.__call__" ⟨[.ref aClass], []⟩)).depth ≤ c.A.depth + 1 := by
      show c.A.depth + (Code.builtin "type.__call__" ⟨[.ref aClass], []⟩).weight ≤ _
      have : (Code.builtin "type.__call__" ⟨[.ref aClass], []⟩).weight ≤ 1 := by decide +kernel
      omega
    omega) fun hl => ⟨rfl, h x d hl⟩
end
end Mine
end

section
set_option maxRecDepth 100000
namespace Mine
noncomputable def Ltr (l : List Nat) : Prop := ∀ c ∈ l, 65 ≤ c ∧ c < 127
theorem Ltr.fine {l : List Nat} (h : Ltr l) : Fine l := fun c hc => by have := h c hc; omega
theorem Ltr.fine_lo {l : List Nat} (h : Ltr l) : Fine (l.map lo1) := fun c hc => by
  obtain ⟨a, ha, rfl⟩ := List.mem_map.mp hc
  have := h a ha
  unfold lo1; split <;> omega
theorem Ltr.lower {l : List Nat} (h : Ltr l) : PySem.Txt.lower (tx l) = tx (l.map lo1) := lower_tx fun c hc => by have := h c hc; omega
noncomputable def hasNm (nm : List Nat) (t : Row) : Bool := t.2.1.map lo1 == nm.map lo1
noncomputable def gotV : Option (List Nat) → V
  | some v => .str (tx v)
  | .none => .none
noncomputable def gotOne (tbl : List Row) (nm : List Nat) : Option (List Nat) := (tbl.find? (hasNm nm)).map fun t => t.2.2
section
variable {w : World} {S0 : Shared} {Kf : Frag} {c : Cx} {m : Ms} {σ : Sto} {K : V → Sto → Prop} {mg mb : Str → Option Value}

/- keys -/
theorem keys_ok (H : Hc S0 Kf mg mb) : ∃ pm cd, FnOk S0 aKeys (mkFd (meth 9) "Headers.keys" pm cd .none .none) (bodyOf (meth 9)) (locals (scopeOf (meth 9))) :=
  H.f_keys.ok (fun _ _ => ⟨rfl, rfl, rfl, rfl, rfl, rfl, rfl⟩) rfl rfl rfl (by decide +kernel) (by decide +kernel) (by decide +kernel)
theorem keys (H : Hc S0 Kf mg mb) (hroom : c.A.depth < recursionLimit) {x d hl : Addr} {tbl : List Row} (hs : tbl.length ≤ 1000000)
    (hT : ∀ p ∈ Tb x d hl tbl, p ∈ σ) (h : ∀ a, K (.ref a) ((a, .list (tbl.map fun t => V.str (tx t.2.1))) :: σ)) : Cal pw w S0 c m σ (.ref aKeys) [.ref x] [] K := by
  obtain ⟨pm, cd, FO⟩ := keys_ok H
  refine cal_def H.H.B FO (by omega) (binds_pos (ns := ["self"]) rfl (fun vs hv => ?_) ⟨by rfl, fun L => ?_⟩)
  · obtain ⟨v, rfl⟩ : ∃ v, vs = [v] := List.length_eq_one_iff.mp hv
    rfl
  have hx : (x, O.inst aClass d) ∈ σ := hT _ (.head _)
  have hd : (d, O.idict "_headers" (.ref hl)) ∈ σ := hT _ (.tail _ (.head _))
  have hh : (hl, O.list (tbl.map fun t => V.ref t.1)) ∈ σ := hT _ (.tail _ (.tail _ (.head _)))
  have hr : ∀ t ∈ tbl, rowO t ∈ σ := fun t h => hT _ (.tail _ (.tail _ (.tail _ (List.mem_map_of_mem h))))
  refine ex_ret ?_
  refine ev_comp (cl := []) (names := [".0", "k", "v"]) (nd := by decide +kernel) rfl (by decide +kernel) (by decide +kernel) rfl ?_
  refine ev_attr (Kf := Kf) ?_ -- self._headers
  refine ev_loc (i := 0) rfl rfl rfl rfl ?_ -- self
  refine ⟨x, aClass, d, hl, rfl, mem_st hx, mem_st hd, H.ck, H.c_hdr, ?_⟩
  refine ⟨_, _, itb_list, mem_st hh, fun L2 => ?_⟩
  refine ct_mapA (fun t : Row => V.ref t.1) (fun t => V.str (tx t.2.1)) (mem_st hh) (sz hs) (fun t hm p q => ?_) ?_
  · refine asg_tuple (xs := [.str (tx t.2.1), .str (tx t.2.2)]) (mem_st (hr t hm)) rfl ?_
    refine asg_name (sto_loc (i := 1) rfl rfl ?_)
    refine asg_name (sto_loc (i := 2) rfl rfl ?_)
    show Ev pw w S0 _ _ _ _ _
    refine ev_loc (i := 1) rfl rfl rfl rfl ?_ -- k
    exact ⟨rfl, .refl _⟩
  · refine ⟨_, .refl _, fun a => ?_⟩
    exact ret_sub (.refl _) (h a)
theorem wk_cons {m0 m1 : Ms} {T0 T1 : Sto} (h : Wk m0 T0 m1 T1) (i : Nat) (x : V) : Wk ((i, x) :: m0) T0 ((i, x) :: m1) T1 := ⟨fun j v hv => by
  rw [List.lookup_cons] at hv ⊢
  split at hv
  · exact hv
  · exact h.ms j v hv, h.st⟩
theorem get_ok (H : Hc S0 Kf mg mb) : ∃ pm cd, FnOk S0 aGet (mkFd (meth 8) "Headers.get" pm cd (.ref aGetD) .none) (bodyOf (meth 8)) (locals (scopeOf (meth 8))) :=
  H.f_get.ok (fun _ _ => ⟨rfl, rfl, rfl, rfl, rfl, rfl, rfl⟩) rfl rfl rfl (by decide +kernel) (by decide +kernel) (by decide +kernel)
theorem get (H : Hc S0 Kf mg mb) (hroom : c.A.depth + 1 < recursionLimit) {x d hl : Addr} {tbl : List Row} {nm : List Nat} (hn : Ltr nm) (hnl : nm.length ≤ 100000) (ht : ∀ t ∈ tbl, Ltr t.2.1 ∧ t.2.1.length ≤ 100000) (hs : tbl.length ≤ 1000000)
    (hT : ∀ p ∈ Tb x d hl tbl, p ∈ σ) (h : K (gotV (gotOne tbl nm)) σ) : Cal pw w S0 c m σ (.ref aGet) [.ref x, .str (tx nm)] [] K := by
  obtain ⟨pm, cd, FO⟩ := get_ok H
  obtain ⟨n, hD⟩ := H.d_get
  refine cal_def H.H.B FO (by omega) (binds_dflt (T := aGetD) hD rfl rfl fun vs ks hv hk => ?_)
  obtain ⟨v, u, rfl, hv1, hv2⟩ := hv.two
  cases ks with
  | cons => exact hk.elim
  | nil =>
  refine ⟨_, [("self", .ref x), ("name", .str (tx nm)), ("default", .none)], _, rfl, rfl, rfl, ⟨hv1, hv2, rfl, trivial⟩, by rfl, fun L => ?_⟩
  have hx : (x, O.inst aClass d) ∈ σ := hT _ (.head _)
  have hd : (d, O.idict "_headers" (.ref hl)) ∈ σ := hT _ (.tail _ (.head _))
  have hh : (hl, O.list (tbl.map fun t => V.ref t.1)) ∈ σ := hT _ (.tail _ (.tail _ (.head _)))
  have hr : ∀ t ∈ tbl, rowO t ∈ σ := fun t h => hT _ (.tail _ (.tail _ (.tail _ (List.mem_map_of_mem h))))
  -- name = self._convert_string_type(name.lower(), name=True)
  refine ex_assign ?_
  refine ev_meth_kw ?_ -- self._convert_string_type(name.lower(), name=True)
  refine ev_loc (i := 0) rfl rfl rfl rfl ?_ -- self
  refine mth_own (mem_st hx) (mem_st hd) H.ck H.c_conv H.t_conv (by decide) ?_
  refine ⟨H.f_conv.kpr, ?_⟩
  refine ev_meth ?_ -- name.lower()
  refine ev_loc (i := 1) rfl rfl rfl rfl ?_ -- name
  refine mth_lower ?_
  refine ⟨kpr_blt, ?_⟩
  refine evs_nil ?_
  refine cal_lower (by rw [len_tx]; omega) ?_
  rw [hn.lower]
  refine ev_bool ?_
  refine conv H (by show c.A.depth + 1 < _; exact hroom) hn.fine_lo (by simp; omega) ?_
  refine sto_loc (i := 1) rfl rfl ?_ -- name
  -- for k, v in self._headers:
  refine ex_for ?_
  refine ev_attr (Kf := Kf) ?_ -- self._headers
  refine ev_loc (i := 0) rfl rfl rfl rfl ?_ -- self
  refine ⟨x, aClass, d, hl, rfl, mem_st hx, mem_st hd, H.ck, H.c_hdr, ?_⟩
  refine ⟨_, _, itb_list (xs := tbl.map fun t => V.ref t.1), ?_⟩
  refine turns_gen (fun xs m0 T0 => ∃ k : Nat, xs = (tbl.drop k).map (fun t => V.ref t.1) ∧ (tbl.drop k).find? (hasNm nm) = tbl.find? (hasNm nm) ∧ Wk m0 T0 [(0, .ref x), (1, .str (tx (nm.map lo1))), (2, .none)] σ) ?_ ?_ ?_ _ _ _ ?_
  · rintro xs m0 T0 ⟨k, -, -, hw⟩
    exact mem_st (hw.st.subset hh)
  · rintro y xs m0 T0 ⟨k, hx', hf, hw⟩ p
    cases hdk : tbl.drop k with
    | nil => rw [hdk] at hx'; cases hx'
    | cons t ts =>
      rw [hdk] at hx' hf
      rw [List.map_cons, List.cons.injEq] at hx'
      obtain ⟨rfl, rfl⟩ := hx'
      have htm : t ∈ tbl := List.mem_of_mem_drop (i := k) (by rw [hdk]; exact .head _)
      obtain ⟨hl1, hl2⟩ := ht t htm
      refine asg_tuple (xs := [.str (tx t.2.1), .str (tx t.2.2)]) (mem_st (hw.st.subset (hr t htm))) rfl ?_
      refine asg_name (sto_loc (i := 3) rfl rfl ?_)
      refine asg_name (sto_loc (i := 4) rfl rfl ?_)
      show Ex pw w S0 _ _ _ _ _
      refine Ex.wk (wk_cons (wk_cons hw 3 _) 4 _) ?_
      -- if k.lower() == name:
      refine ex_if ?_
      refine et_cmp ?_ -- k.lower() == name
      refine ev_meth ?_ -- k.lower()
      refine ev_loc (i := 3) rfl rfl rfl rfl ?_ -- k
      refine mth_lower ?_
      refine ⟨kpr_blt, ?_⟩
      refine evs_nil ?_
      refine cal_lower (by rw [len_tx]; omega) ?_
      rw [hl1.lower]
      refine ev_loc (i := 1) rfl rfl rfl rfl ?_ -- name
      refine cmp_seq ?_
      refine tru_bool ?_
      rw [tx_beq, show (t.2.1.map lo1 == nm.map lo1) = hasNm nm t from rfl]
      rw [List.find?_cons] at hf
      refine ⟨fun hb => ?_, fun hb => ?_⟩
      · -- return v
        refine ex_ret ?_
        refine ev_loc (i := 4) rfl rfl rfl rfl ?_ -- v
        rw [hb] at hf
        rw [show gotOne tbl nm = some t.2.2 by unfold gotOne; rw [← hf]; rfl] at h
        exact ret_sub (m' := []) (.refl _) h
      · rw [hb] at hf
        refine ex_nil (ex_nil ⟨_, _, Wk.rfl, k + 1, ?_, ?_, ?_⟩)
        · rw [show tbl.drop (k + 1) = ts by rw [← List.drop_drop, hdk]; rfl]
        · rw [show tbl.drop (k + 1) = ts by rw [← List.drop_drop, hdk]; rfl]; exact hf
        · exact .of ⟨rfl, rfl, rfl, trivial⟩ (.refl _)
  · rintro m0 T0 ⟨k, hx', hf, hw⟩
    refine Ex.wk hw ?_
    -- return default
    refine ex_ret ?_
    refine ev_loc (i := 2) rfl rfl rfl rfl ?_ -- default
    have e : tbl.drop k = [] := List.map_eq_nil_iff.mp hx'.symm
    rw [e] at hf
    rw [show gotOne tbl nm = .none by unfold gotOne; rw [← hf]; rfl] at h
    exact ret_sub (m' := []) (.refl _) h
  · exact ⟨0, by simp, by simp, .of ⟨rfl, rfl, rfl, trivial⟩ (.refl _)⟩
end
end Mine
end

section
set_option maxRecDepth 100000
namespace Mine
section
variable {w : World} {S0 : Shared} {Kf : Frag} {c : Cx} {m : Ms} {σ : Sto} {K : V → Sto → Prop} {mg mb : Str → Option Value}
theorem Cal.post {f : V} {xs : List V} {kws : List (Str × V)} (k : Cal pw w S0 c m σ f xs kws fun v σ' => ∃ σ'', σ'.Perm σ'' ∧ K v σ'') : Cal pw w S0 c m σ f xs kws K := fun fv vs ks a b d =>
  Tr.mono (k fv vs ks a b d) fun v τ ⟨V, σ', hz, hi, σ'', hp, hk⟩ => ⟨V, σ'', hz, hi.trans (Imp.perm (.cons _ (.append_left _ hp))), hk⟩
theorem Cal.perm {f : V} {xs : List V} {kws : List (Str × V)} {σ' : Sto} (h : σ.Perm σ') (k : Cal pw w S0 c m σ' f xs kws K) : Cal pw w S0 c m σ f xs kws K := fun fv vs ks a b d => Tr.weak (Imp.perm (.cons _ (.append_left _ h))) (k fv vs ks a b d)
theorem nn_gs {v : List Nat} : ∀ u, Rz (.str (tx v)) u → (u == .none) = false := by rintro _ ⟨t, rfl⟩; rfl
theorem nn_gn : ∀ u, Rz .none u → (u == .none) = true := by rintro _ rfl; rfl
/- setdefault -/
theorem setd_ok (H : Hc S0 Kf mg mb) : ∃ pm cd, FnOk S0 aSetd (mkFd (meth 15) "Headers.setdefault" pm cd .none .none) (bodyOf (meth 15)) (locals (scopeOf (meth 15))) :=
  H.f_setd.ok (fun _ _ => ⟨rfl, rfl, rfl, rfl, rfl, rfl, rfl⟩) rfl rfl rfl (by decide +kernel) (by decide +kernel) (by decide +kernel)
theorem setd (H : Hc S0 Kf mg mb) (hroom : c.A.depth + 2 < recursionLimit) {x d hl : Addr} {tbl : List Row} {nm vl : List Nat} (hn : Ltr nm) (hnl : nm.length ≤ 100000) (ht : ∀ t ∈ tbl, Ltr t.2.1 ∧ t.2.1.length ≤ 100000) (hv : Fine vl) (hvl : vl.length ≤ 1000000) (hs : tbl.length ≤ 1000000)
    (h1 : ∀ v, gotOne tbl nm = some v → K (.str (tx v)) (Tb x d hl tbl ++ σ)) (h2 : gotOne tbl nm = .none → ∀ t, K (.str (tx vl)) (Tb x d hl (tbl ++ [(t, nm, vl)]) ++ σ)) : Cal pw w S0 c m (Tb x d hl tbl ++ σ) (.ref aSetd) [.ref x, .str (tx nm), .str (tx vl)] [] K := by
  obtain ⟨pm, cd, FO⟩ := setd_ok H
  refine cal_def H.H.B FO (by omega) (binds_pos (ns := ["self", "name", "value"]) rfl (fun vs hv => ?_) ⟨by rfl, fun L => ?_⟩)
  · obtain ⟨v, u, t, rfl⟩ := len3 hv
    rfl
  show Ex pw w S0 _ _ _ (Tb x d hl tbl ++ σ) _
  -- result = self.get(name)
  refine ex_assign ?_
  refine ev_meth ?_ -- self.get(name)
  refine ev_loc (i := 0) rfl rfl rfl rfl ?_ -- self
  refine mth_own (mem_st (.head _)) (mem_st (.tail _ (.head _))) H.ck H.c_get H.t_get (by decide) ?_
  refine ⟨H.f_get.kpr, ?_⟩
  refine evs_cons ?_
  refine ev_loc (i := 1) rfl rfl rfl rfl ?_ -- name
  refine evs_nil ?_
  refine get (x := x) (d := d) (hl := hl) (tbl := tbl) H (by show c.A.depth + 1 + 1 < _; omega) hn hnl ht hs (fun p hp => List.mem_append_left _ hp) ?_
  refine sto_loc (i := 3) rfl rfl ?_ -- result
  -- if result is None:
  refine ex_if ?_
  refine et_cmp ?_ -- result is None
  refine ev_loc (i := 3) rfl rfl rfl rfl ?_ -- result
  refine ev_none ?_
  cases hg : gotOne tbl nm with
  | some v =>
    refine cmp_is_none (b := false) nn_gs ?_
    refine tru_bool ?_
    refine ⟨fun e => (nomatch e), fun _ => ?_⟩
    -- return result
    refine ex_ret ?_
    refine ev_loc (i := 3) rfl rfl rfl rfl ?_ -- result
    exact ret_sub (m' := []) (.refl _) (h1 v hg)
  | none =>
    refine cmp_is_none (b := true) nn_gn ?_
    refine tru_bool ?_
    refine ⟨fun _ => ?_, fun e => (nomatch e)⟩
    -- self._headers.append(..)
    refine ex_expr ?_
    refine ev_meth ?_
    refine ev_attr (Kf := Kf) ?_ -- self._headers
    refine ev_loc (i := 0) rfl rfl rfl rfl ?_ -- self
    refine ⟨x, aClass, d, hl, rfl, mem_st (.head _), mem_st (.tail _ (.head _)), H.ck, H.c_hdr, ?_⟩
    refine mth_append (mem_st (.tail _ (.tail _ (.head _)))) ?_
    refine ⟨kpr_blt, ?_⟩
    refine evs_cons ?_
    refine ev_tuple ?_
    refine evs_cons ?_
    refine ev_meth_kw ?_ -- self._convert_string_type(name, name=True)
    refine ev_loc (i := 0) rfl rfl rfl rfl ?_ -- self
    refine mth_own (mem_st (.head _)) (mem_st (.tail _ (.head _))) H.ck H.c_conv H.t_conv (by decide) ?_
    refine ⟨H.f_conv.kpr, ?_⟩
    refine ev_loc (i := 1) rfl rfl rfl rfl ?_ -- name
    refine ev_bool ?_
    refine conv H (by show c.A.depth + 1 < _; omega) hn.fine (by omega) ?_
    refine evs_cons ?_
    refine ev_meth_kw ?_ -- self._convert_string_type(value, name=False)
    refine ev_loc (i := 0) rfl rfl rfl rfl ?_ -- self
    refine mth_own (mem_st (.head _)) (mem_st (.tail _ (.head _))) H.ck H.c_conv H.t_conv (by decide) ?_
    refine ⟨H.f_conv.kpr, ?_⟩
    refine ev_loc (i := 2) rfl rfl rfl rfl ?_ -- value
    refine ev_bool ?_
    refine conv H (by show c.A.depth + 1 < _; omega) hv hvl ?_
    refine evs_nil ?_
    refine ⟨sz (by simp), fun tp => ?_⟩
    refine evs_nil ?_
    refine cal_append (.tail (.tail (.tail .head))) (sz (by simp; omega)) ?_
    -- return value
    refine ex_ret ?_
    refine ev_loc (i := 2) rfl rfl rfl rfl ?_ -- value
    refine ⟨Tb x d hl (tbl ++ [(tp, nm, vl)]) ++ σ, Imp.perm (.cons _ (.append_left _ ?_)), h2 hg tp⟩
    have e1 : (tbl.map fun t => V.ref t.1) ++ [V.ref tp] = (tbl ++ [(tp, nm, vl)]).map fun t => V.ref t.1 := by simp
    have e2 : (tbl ++ [(tp, nm, vl)]).map rowO = tbl.map rowO ++ [(tp, O.tuple [V.str (tx nm), V.str (tx vl)])] := by simp [rowO]
    rw [e1]
    have key : ∀ (A : Sto) (p : Addr × O) (B : Sto), (p :: (A ++ B)).Perm (A ++ p :: B) := fun A p B => List.perm_middle.symm
    have := key ([(x, .inst aClass d), (d, .idict "_headers" (.ref hl)), (hl, .list ((tbl ++ [(tp, nm, vl)]).map fun t => V.ref t.1))] ++ tbl.map rowO) (tp, O.tuple [V.str (tx nm), V.str (tx vl)]) σ
    unfold Tb
    rw [e2]
    simp only [List.cons_append, List.nil_append, List.append_assoc] at this ⊢
    exact this
/- items -/
theorem items_ok (H : Hc S0 Kf mg mb) : ∃ pm cd, FnOk S0 aItems (mkFd (meth 11) "Headers.items" pm cd .none .none) (bodyOf (meth 11)) (locals (scopeOf (meth 11))) :=
  H.f_items.ok (fun _ _ => ⟨rfl, rfl, rfl, rfl, rfl, rfl, rfl⟩) rfl rfl rfl (by decide +kernel) (by decide +kernel) (by decide +kernel)
theorem items (H : Hc S0 Kf mg mb) (hroom : c.A.depth < recursionLimit) {x d hl : Addr} {tbl : List Row} (hs : tbl.length ≤ 1000000)
    (hT : ∀ p ∈ Tb x d hl tbl, p ∈ σ) (h : ∀ a, K (.ref a) ((a, .list (tbl.map fun t => V.ref t.1)) :: σ)) : Cal pw w S0 c m σ (.ref aItems) [.ref x] [] K := by
  obtain ⟨pm, cd, FO⟩ := items_ok H
  refine cal_def H.H.B FO (by omega) (binds_pos (ns := ["self"]) rfl (fun vs hv => ?_) ⟨by rfl, fun L => ?_⟩)
  · obtain ⟨v, rfl⟩ : ∃ v, vs = [v] := List.length_eq_one_iff.mp hv
    rfl
  have hx : (x, O.inst aClass d) ∈ σ := hT _ (.head _)
  have hd : (d, O.idict "_headers" (.ref hl)) ∈ σ := hT _ (.tail _ (.head _))
  have hh : (hl, O.list (tbl.map fun t => V.ref t.1)) ∈ σ := hT _ (.tail _ (.tail _ (.head _)))
  refine ex_ret ?_
  refine ev_lslice ?_
  refine ev_attr (Kf := Kf) ?_ -- self._headers
  refine ev_loc (i := 0) rfl rfl rfl rfl ?_ -- self
  refine ⟨x, aClass, d, hl, rfl, mem_st hx, mem_st hd, H.ck, H.c_hdr, ?_⟩
  refine pt_none ?_
  refine pt_none ?_
  refine ⟨hl, tbl.map fun t => V.ref t.1, rfl, hh, sz (by simp; omega), fun a => ?_⟩
  rw [show cut (tbl.map fun t => V.ref t.1) .none .none = tbl.map fun t => V.ref t.1 by unfold cut; simp; exact List.take_of_length_le (by simp)]
  exact ret_sub (m' := []) (.refl _) (h a)
end
end Mine
end

section
set_option maxRecDepth 100000
namespace Mine
/- the plain law, on signs 0, 1 (letters), 2, 3, 4 (marks), 5 (space), 6, 7 (great letters); told step by step, with what each step asks -/
noncomputable abbrev Pr := List Nat × List Nat
noncomputable abbrev St := List Pr × List Pr
noncomputable def loA (c : Nat) : Nat := bif Nat.beq c 6 then 0 else bif Nat.beq c 7 then 1 else c
noncomputable def upA (c : Nat) : Nat := c + 6
noncomputable def isM (c : Nat) : Bool := Nat.beq c 2 || (Nat.beq c 3 || Nat.beq c 4)
noncomputable def isL (c : Nat) : Bool := Nat.blt c 2 || (Nat.beq c 6 || Nat.beq c 7)
noncomputable def forK {α S : Type} (f : α → S → (S → Bool) → Bool) : List α → S → (S → Bool) → Bool
  | [], s, k => k s
  | x :: xs, s, k => f x s fun s' => forK f xs s' k
noncomputable def eqL : List Nat → List Nat → Bool
  | [], [] => true
  | [], _ :: _ => false
  | _ :: _, [] => false
  | a :: x, b :: y => Nat.beq a b && eqL x y
theorem eqL_eq : ∀ a b : List Nat, eqL a b = (a == b)
  | [], [] => rfl
  | [], _ :: _ => rfl
  | _ :: _, [] => rfl
  | a :: x, b :: y => by
    show (Nat.beq a b && eqL x y) = (a == b && x == y)
    rw [eqL_eq x y, show Nat.beq a b = (a == b) by rw [Bool.eq_iff_iff, Nat.beq_eq, beq_iff_eq]]
noncomputable def hasP (a b : List Nat) : List Pr → Bool
  | [] => false
  | p :: r => (eqL p.1 a && eqL p.2 b) || hasP a b r
theorem hasP_eq (a b : List Nat) : ∀ l : List Pr, hasP a b l = l.contains (a, b)
  | [] => rfl
  | p :: r => by
    rw [hasP, hasP_eq a b r, eqL_eq, eqL_eq, List.contains_cons, Bool.eq_iff_iff, Bool.or_eq_true, Bool.or_eq_true, Bool.and_eq_true, beq_iff_eq, beq_iff_eq, beq_iff_eq]
    constructor
    · rintro (⟨h1, h2⟩ | h)
      · exact .inl (by rw [← h1, ← h2])
      · exact .inr h
    · rintro (h | h)
      · exact .inl (by rw [← h]; exact ⟨rfl, rfl⟩)
      · exact .inr h
noncomputable def wAcc : Nat → Nat → List Nat → List Nat
  | 0, _, acc => acc
  | f + 1, l, acc => bif Nat.blt 1 l then wAcc f (l / 2) (l % 2 :: acc) else acc
noncomputable def wordA (n : Nat) : List Nat := wAcc 4 n []
noncomputable def getA (tb : List Pr) (nm : List Nat) : Option (List Nat) := (tb.find? fun t => eqL (t.1.map loA) (nm.map loA)).map (·.2)
noncomputable def okE (e : List Nat) : Bool := e.all (fun c => Nat.blt c 2) && Nat.blt e.length 50
noncomputable def okT (tb : List Pr) : Bool := Nat.blt tb.length 50 && tb.all fun t => t.1.all isL && (Nat.blt t.1.length 50 && Nat.blt t.2.length 400)
noncomputable def nameA (n : Nat) (e : List Nat) : List Nat := bif Nat.beq (n % 2) 1 then e.map upA else e
noncomputable def valA (more less : List Nat) : List Nat := more ++ [5] ++ less
noncomputable def layK (s : St) (e more less : List Nat) (k : St → Bool) : Bool :=
  okE e && (Nat.blt more.length 100 && (Nat.blt less.length 100 && (okT s.1 && (Nat.blt s.2.length 50 &&
  match getA s.1 (nameA s.2.length e) with
  | none => k (s.1 ++ [(nameA s.2.length e, valA more less)], s.2 ++ [(nameA s.2.length e, valA more less)])
  | some t => bif eqL t (valA more less) then k (s.1, s.2 ++ [(nameA s.2.length e, valA more less)]) else k s))))
noncomputable def wsAt (ws : List (List Nat)) (k : Nat) : List Nat := ws.getD k []
noncomputable def typA (ws : List (List Nat)) (k : Nat) : List Nat := wsAt ws k ++ [2 + k]
noncomputable def stage1K (ws : List (List Nat)) (k : St → Bool) : Bool :=
  forK (fun i s c => forK (fun j s c => bif !Nat.beq i j && eqL ((wsAt ws j).take (wsAt ws i).length) (wsAt ws i) then layK s ((wsAt ws j).drop (wsAt ws i).length) (typA ws j) (typA ws i) c else c s) [0, 1, 2] s c) [0, 1, 2] ([], []) k
noncomputable def splA (l : List Nat) : Pr := (l.takeWhile (fun c => !Nat.beq c 5), (l.dropWhile (fun c => !Nat.beq c 5)).drop 1)
noncomputable def oneS (l : List Nat) : Bool := Nat.beq (l.filter (fun c => Nat.beq c 5)).length 1
noncomputable def step2K (ws : List (List Nat)) (e more less : List Nat) (k : Nat) (r : St × List Pr) (c : St × List Pr → Bool) : Bool :=
  bif eqL (wsAt ws k) e then c (r.1, r.2 ++ [(more, less ++ typA ws k)])
  else bif eqL ((wsAt ws k).take e.length) e then layK r.1 ((wsAt ws k).drop e.length) (less ++ typA ws k) more fun s => c (s, r.2)
  else bif eqL (e.take (wsAt ws k).length) (wsAt ws k) then layK r.1 (e.drop (wsAt ws k).length) more (less ++ typA ws k) fun s => c (s, r.2)
  else c r
noncomputable def stage2K (ws : List (List Nat)) : Nat → Nat → St × List Pr → (St × List Pr → Bool) → Bool
  | 0, _, _, _ => false
  | f + 1, spot, r, k =>
    Nat.blt r.1.2.length 50 && (Nat.blt r.2.length 100 &&
    bif Nat.blt spot (min r.1.2.length 9) then
      match r.1.2[spot]? with
      | none => false
      | some t => t.1.all isL && (okT r.1.1 && (Nat.blt t.1.length 50 && match getA r.1.1 (t.1.map loA) with
        | none => false
        | some v => oneS v && (Nat.blt v.length 100 && forK (step2K ws (t.1.map loA) (splA v).1 (splA v).2) [0, 1, 2] r fun r' => stage2K ws f (spot + 1) r' k)))
    else k r)
noncomputable def ltA : List Nat → List Nat → Bool
  | [], [] => false
  | [], _ => true
  | _, [] => false
  | a :: x, b :: y => bif Nat.beq a b then ltA x y else Nat.blt a b
noncomputable def walk0 (ws : List (List Nat)) : List Pr := ws.flatMap fun u => (ws.filter fun v => ltA u v).map fun v => (u, v)
noncomputable def sideA (ws : List (List Nat)) (l : List Nat) : List (List Nat) := bif eqL l [] then ws else [l]
noncomputable def stepK (a b : List Nat) (l : List Pr) (c : List Pr → Bool) : Bool :=
  match a, b with
  | x :: a', y :: b' => bif Nat.beq x y && !hasP a' b' l then Nat.blt l.length 200 && c (l ++ [(a', b')]) else c l
  | _, _ => false
noncomputable def walkK (ws : List (List Nat)) : Nat → Nat → List Pr → (List Pr → Bool) → Bool
  | 0, _, _, _ => false
  | f + 1, spot, l, k =>
    Nat.blt l.length 200 && match l[spot]? with
    | none => k l
    | some p => Nat.blt p.1.length 50 && (Nat.blt p.2.length 50 && bif eqL p.1 [] && eqL p.2 [] then walkK ws f (spot + 1) l k else
        forK (fun a l c => forK (fun b l c => stepK a b l c) (sideA ws p.2) l c) (sideA ws p.1) l fun l' => walkK ws f (spot + 1) l' k)
noncomputable def endsA (wk : List Pr) : List (List Nat) := (wk.filter fun p => eqL p.1 [] != eqL p.2 []).map fun p => p.1 ++ p.2
noncomputable def hasL (a : List Nat) : List (List Nat) → Bool
  | [] => false
  | x :: r => eqL x a || hasL a r
noncomputable def ddA (l : List (List Nat)) : List (List Nat) := l.foldl (fun ks x => bif hasL x ks then ks else ks ++ [x]) []
noncomputable def bareA (l : List Nat) : List Nat := l.filter fun c => !isM c
noncomputable def rowA (l : List Nat) : List (List Nat) := l.foldl (fun r c => bif isM c then r ++ [[]] else r.dropLast ++ [r.getLastD [] ++ [c]]) [[]]
noncomputable def metK : List Pr → Bool
  | [] => true
  | m :: _ => Nat.blt m.1.length 100 && (Nat.blt m.2.length 100 && (m.1.all (fun c => Nat.blt c 5) && (m.2.all (fun c => Nat.blt c 5) && (eqL (rowA m.1).flatten (bareA m.2) && (eqL (rowA m.2).flatten (bareA m.2) &&
      (Nat.blt (rowA m.1).length 100 && levF m.1 (bareA m.2) (2 * ((rowA m.1).length : Int) - 2) == 2 * ((rowA m.1).length : Int) - 2))))))
noncomputable def itemK (t : Pr) : Bool := oneS t.2 && eqL (bareA (splA t.2).1) (bareA (splA t.2).2 ++ t.1.map loA)
noncomputable def lastK (s : St) (met wk : List Pr) : Bool :=
  okT s.1 && (Nat.blt s.2.length 50 && (Nat.blt wk.length 60 && (wk.all (fun p => Nat.blt p.1.length 50 && Nat.blt p.2.length 50) && ((s.1.map fun t => t.1.map loA).isPerm (ddA (endsA wk)) && (s.1 == s.2 && (((!met.isEmpty) == hasP [] [] wk) && (s.1.all itemK && metK met)))))))
noncomputable def okW (ws : List (List Nat)) : Bool := ws.all fun w => w.all (fun c => Nat.blt c 2) && Nat.blt w.length 5
noncomputable def lawK (a b c : Nat) : Bool :=
  okW [wordA a, wordA b, wordA c] && stage1K [wordA a, wordA b, wordA c] fun s => stage2K [wordA a, wordA b, wordA c] 10 0 (s, []) fun r => walkK [wordA a, wordA b, wordA c] 60 0 (walk0 [wordA a, wordA b, wordA c]) fun wk => lastK r.1 r.2 wk
end Mine
end

section
set_option maxRecDepth 100000
namespace Mine
noncomputable def rowK (a : Nat) : Bool := (List.range 14).all fun b => (List.range 14).all fun c => Nat.beq a b || (Nat.beq a c || (Nat.beq b c || lawK (2 + a) (2 + b) (2 + c)))
theorem rowK_0 : rowK 0 = true := by decide +kernel
theorem rowK_1 : rowK 1 = true := by decide +kernel
theorem rowK_2 : rowK 2 = true := by decide +kernel
theorem rowK_3 : rowK 3 = true := by decide +kernel
theorem rowK_4 : rowK 4 = true := by decide +kernel
theorem rowK_5 : rowK 5 = true := by decide +kernel
theorem rowK_6 : rowK 6 = true := by decide +kernel
theorem rowK_7 : rowK 7 = true := by decide +kernel
theorem rowK_8 : rowK 8 = true := by decide +kernel
theorem rowK_9 : rowK 9 = true := by decide +kernel
theorem rowK_10 : rowK 10 = true := by decide +kernel
theorem rowK_11 : rowK 11 = true := by decide +kernel
theorem rowK_12 : rowK 12 = true := by decide +kernel
theorem rowK_13 : rowK 13 = true := by decide +kernel
theorem rowK_all (a : Nat) (ha : a < 14) : rowK a = true := by
  have : a = 0 ∨ a = 1 ∨ a = 2 ∨ a = 3 ∨ a = 4 ∨ a = 5 ∨ a = 6 ∨ a = 7 ∨ a = 8 ∨ a = 9 ∨ a = 10 ∨ a = 11 ∨ a = 12 ∨ a = 13 := by omega
  rcases this with rfl | rfl | rfl | rfl | rfl | rfl | rfl | rfl | rfl | rfl | rfl | rfl | rfl | rfl
  · exact rowK_0
  · exact rowK_1
  · exact rowK_2
  · exact rowK_3
  · exact rowK_4
  · exact rowK_5
  · exact rowK_6
  · exact rowK_7
  · exact rowK_8
  · exact rowK_9
  · exact rowK_10
  · exact rowK_11
  · exact rowK_12
  · exact rowK_13
theorem lawK_all {a b c : Nat} (ha : a < 14) (hb : b < 14) (hc : c < 14) (hab : a ≠ b) (hac : a ≠ c) (hbc : b ≠ c) : lawK (2 + a) (2 + b) (2 + c) = true := by
  have h := rowK_all a ha
  unfold rowK at h
  rw [List.all_eq_true] at h
  have h := h b (List.mem_range.mpr hb)
  rw [List.all_eq_true] at h
  have h := h c (List.mem_range.mpr hc)
  rw [Bool.or_eq_true, Bool.or_eq_true, Bool.or_eq_true, Nat.beq_eq, Nat.beq_eq, Nat.beq_eq] at h
  rcases h with h | h | h | h
  · exact absurd h hab
  · exact absurd h hac
  · exact absurd h hbc
  · exact h
end Mine
end

section
set_option maxRecDepth 100000
namespace Mine
/- the signs spelled -/
structure Enc (e : Nat → Nat) : Prop where
  inj : ∀ a b, e a = e b → a = b
  lo : ∀ c, lo1 (e c) = e (loA c)
  b1 : ∀ c, b1.contains ((e c : Nat) : Int) = isM c
  fine : ∀ c, 32 ≤ e c ∧ e c ≠ 127
  ltr : ∀ c, isL c = true → 65 ≤ e c ∧ e c < 127
  up : ∀ c, c < 2 → e c = e (c + 6) + 32
  lt : e 0 < e 1
  sp : e 5 = 32
  okc : ∀ c, c < 5 → Okc (e c)
noncomputable def te (e : Nat → Nat) (l : List Nat) : PySem.Str := tx (l.map e)
section
variable {e : Nat → Nat} (he : Enc e)
theorem te_app (a b : List Nat) : te e a ++ te e b = te e (a ++ b) := by unfold te; rw [tx_app, List.map_append]
theorem len_te (l : List Nat) : (te e l).length = l.length := by unfold te; rw [len_tx, List.length_map]
theorem te_nil : te e [] = (PySem.Str.ofString "") := by rfl
include he
theorem map_inj {a b : List Nat} : a.map e = b.map e ↔ a = b := by
  constructor
  · induction a generalizing b with
    | nil => intro h; cases b with
      | nil => rfl
      | cons => cases h
    | cons x a ih => intro h; cases b with
      | nil => cases h
      | cons y b =>
        rw [List.map_cons, List.map_cons] at h
        injection h with h1 h2
        rw [he.inj _ _ h1, ih h2]
  · rintro rfl; rfl
theorem te_inj {a b : List Nat} : te e a = te e b ↔ a = b := by unfold te; rw [tx_inj, map_inj he]
theorem te_beq (a b : List Nat) : (te e a == te e b) = eqL a b := by
  rw [eqL_eq, Bool.eq_iff_iff, beq_iff_eq, beq_iff_eq]; exact te_inj he
theorem te_fine (l : List Nat) : Fine (l.map e) := fun c hc => by
  obtain ⟨a, _, rfl⟩ := List.mem_map.mp hc
  exact he.fine a
theorem te_ltr {l : List Nat} (h : l.all isL = true) : Ltr (l.map e) := fun c hc => by
  obtain ⟨a, ha, rfl⟩ := List.mem_map.mp hc
  exact he.ltr a (List.all_eq_true.mp h a ha)
theorem te_lo (l : List Nat) : (l.map e).map lo1 = (l.map loA).map e := by
  rw [List.map_map, List.map_map]
  exact List.map_congr_left fun c _ => he.lo c
theorem te_lower {l : List Nat} (h : l.all isL = true) : PySem.Txt.lower (te e l) = te e (l.map loA) := by
  unfold te
  rw [(te_ltr he h).lower, te_lo he]
theorem te_lt : ∀ {a b : List Nat}, (∀ c ∈ a, c < 2) → (∀ c ∈ b, c < 2) → decide (a.map e < b.map e) = ltA a b
  | [], [], _, _ => by rfl
  | [], b :: y, _, _ => by
    rw [decide_eq_true_eq.mpr]; rfl
    exact List.Lex.nil
  | a :: x, [], _, _ => by
    rw [decide_eq_false]; rfl
    exact fun h => nomatch h
  | a :: x, b :: y, ha, hb => by
    have h1 := ha a (.head _)
    have h2 := hb b (.head _)
    have ih := te_lt (fun c hc => ha c (.tail _ hc)) (fun c hc => hb c (.tail _ hc)) (a := x) (b := y)
    unfold ltA
    have hab : (e a < e b) ↔ a < b := by
      have := he.lt
      have ea : a = 0 ∨ a = 1 := by omega
      have eb : b = 0 ∨ b = 1 := by omega
      rcases ea with rfl | rfl <;> rcases eb with rfl | rfl <;> omega
    rw [List.map_cons, List.map_cons]
    cases hc : Nat.beq a b with
    | true =>
      have := Nat.eq_of_beq_eq_true hc
      subst this
      rw [cond_true, ← ih, Bool.eq_iff_iff, decide_eq_true_eq, decide_eq_true_eq]
      constructor
      · intro h
        cases h with
        | cons h => exact h
        | rel h => exact absurd h (Nat.lt_irrefl _)
      · exact fun h => .cons h
    | false =>
      have hne : a ≠ b := fun h => by subst h; rw [Nat.beq_refl] at hc; cases hc
      rw [cond_false, Bool.eq_iff_iff, decide_eq_true_eq, Nat.blt_eq, ← hab]
      constructor
      · intro h
        generalize hA : e a = A at h ⊢
        generalize hB : e b = B at h ⊢
        cases h with
        | cons h => exact absurd (he.inj _ _ (hA.trans hB.symm)) hne
        | rel h => exact h
      · exact fun h => .rel h
end
theorem cut_map {α β : Type} (f : α → β) (l : List α) (lo hi : Option Int) : cut (l.map f) lo hi = (cut l lo hi).map f := by
  unfold cut
  rw [List.length_map, List.map_take, List.map_drop]
theorem slice_te (e : Nat → Nat) (l : List Nat) (lo hi : Option Int) : Txt.slice (te e l) lo hi = te e (cut l lo hi) := by unfold te; rw [slice_tx, cut_map]
theorem cutF {α : Type} (l : List α) (k : Nat) : cut l (some (k : Int)) .none = l.drop k := by
  unfold cut
  simp only [Option.elim_some, Option.elim_none]
  rw [clip_nat, List.take_of_length_le (by simp)]
  rcases Nat.le_total k l.length with h | h
  · rw [Nat.min_eq_left h]
  · rw [Nat.min_eq_right h, List.drop_eq_nil_of_le h, List.drop_length]
theorem cutT {α : Type} (l : List α) (k : Nat) : cut l .none (some (k : Int)) = l.take k := by
  unfold cut
  simp only [Option.elim_some, Option.elim_none, List.drop_zero, Nat.sub_zero]
  rw [clip_nat]
  rcases Nat.le_total k l.length with h | h
  · rw [Nat.min_eq_left h]
  · rw [Nat.min_eq_right h, List.take_length, List.take_of_length_le h]
theorem cutL {α : Type} (l : List α) : cut l .none (some (-1)) = l.dropLast := by
  unfold cut
  simp only [Option.elim_some, Option.elim_none, List.drop_zero, Nat.sub_zero]
  have h := clipAt_cast l.length (-1)
  rw [if_pos (by decide)] at h
  rw [List.dropLast_eq_take]
  congr 1
  omega
end Mine
end

section
open PySem PySem.W PySem.Calls PyProof.Rows PySem.Spec PySem.StrLaws
open PySem.Builtin PySem.Builtin.Str
set_option maxRecDepth 100000
namespace Mine
/- split at the one sign -/
theorem occ_skip (s sub : Str) (hi limit : Nat) : ∀ (l : List Nat) (st : Array Nat × Nat), (∀ i ∈ l, ¬ At s sub hi i) → (forIn l st (occBody s sub hi limit)).run.fst = st.fst
  | [], _, _ => rfl
  | a :: l, st, h => by
    rw [List.forIn_cons]
    unfold occBody
    rw [if_neg (fun x => h a (.head _) ⟨x.1.2, x.2⟩)]
    exact occ_skip s sub hi limit l _ fun i hi => h i (.tail _ hi)
theorem occ_only (s sub : Str) (hi limit a : Nat) (ha : At s sub hi a) (post : List Nat) (hpost : ∀ i ∈ post, ¬ At s sub hi i) : ∀ (pre : List Nat) (st : Array Nat × Nat), (∀ i ∈ pre, ¬ At s sub hi i) → st.fst.size < limit → st.snd ≤ a →
    (forIn (pre ++ a :: post) st (occBody s sub hi limit)).run.fst = st.fst.push a
  | [], st, _, h1, h2 => by
    rw [List.nil_append, List.forIn_cons]
    unfold occBody
    rw [if_pos ⟨⟨⟨h1, h2⟩, ha.1⟩, ha.2⟩]
    exact occ_skip s sub hi limit post _ hpost
  | b :: pre, st, h, h1, h2 => by
    rw [List.cons_append, List.forIn_cons]
    unfold occBody
    rw [if_neg (fun x => h b (.head _) ⟨x.1.2, x.2⟩)]
    exact occ_only s sub hi limit a ha post hpost pre _ (fun i hi => h i (.tail _ hi)) h1 h2
theorem strSub_tx (l : List Nat) (i j : Nat) : strSub (tx l) i j = tx ((l.drop i).take (j - i)) := by
  unfold strSub tx
  rw [List.extract_toArray]
theorem at_tx (l : List Nat) (n i : Nat) : At (tx l) (tx [n]) l.length i ↔ l[i]? = some n := by
  unfold At subAt
  rw [len_tx]
  show i + 1 ≤ l.length ∧ ((l.toArray.extract i (i + 1)) == #[n]) = true ↔ _
  rw [List.extract_toArray, beq_iff_eq, show (#[n] : Array Nat) = [n].toArray from rfl, show ∀ a b : List Nat, (a.toArray = b.toArray) = (a = b) from fun a b => propext ⟨fun h => List.toArray_inj h, fun h => h ▸ rfl⟩, List.extract_eq_take_drop, show i + 1 - i = 1 by omega]
  constructor
  · rintro ⟨h1, h2⟩
    rw [List.drop_eq_getElem_cons (by omega)] at h2
    have h2 : [l[i]] = [n] := h2
    rw [List.getElem?_eq_getElem (by omega)]
    injection h2 with h2 _
    rw [h2]
  · intro h
    obtain ⟨h1, h2⟩ := List.getElem?_eq_some_iff.mp h
    refine ⟨h1, ?_⟩
    rw [List.drop_eq_getElem_cons h1, h2]; rfl
theorem split_tx (a b : List Nat) (n : Nat) (ha : n ∉ a) (hb : n ∉ b) (hn : n < 256) : Txt.split (tx (a ++ n :: b)) (tx [n]) = [tx a, tx b] := by
  have hlen : (tx (a ++ n :: b)).length = a.length + 1 + b.length := by rw [len_tx]; simp; omega
  have hocc : occurrences (tx (a ++ n :: b)) (tx [n]) 0 (tx (a ++ n :: b)).length ((tx (a ++ n :: b)).length + 1) = [a.length] := by
    rw [occ_eq, hlen]
    have e : List.range' 0 (a.length + 1 + b.length + 1 - 0) = List.range' 0 a.length ++ a.length :: List.range' (a.length + 1) (b.length + 1) := by
      rw [show a.length + 1 + b.length + 1 - 0 = a.length + (1 + (b.length + 1)) by omega, ← List.range'_append_1, Nat.zero_add]
      congr 1
      rw [show 1 + (b.length + 1) = (b.length + 1) + 1 by omega, List.range'_succ]
    have hL : (a ++ n :: b).length = a.length + 1 + b.length := by simp; omega
    have hat : ∀ i, At (tx (a ++ n :: b)) (tx [n]) (a.length + 1 + b.length) i ↔ (a ++ n :: b)[i]? = some n := fun i => by rw [← hL]; exact at_tx _ _ _
    rw [e, occ_only _ _ _ _ a.length ((hat _).mpr (by simp)) _ (fun i hi => ?_) _ _ (fun i hi => ?_) (by simp) (Nat.zero_le _)]
    · rfl
    · rw [hat]
      intro hx
      have h1 : a.length + 1 ≤ i := by have := List.mem_range'.mp hi; omega
      rw [List.getElem?_append_right (by omega), show i - a.length = (i - a.length - 1) + 1 by omega, List.getElem?_cons_succ] at hx
      exact hb (List.mem_of_getElem? hx)
    · rw [hat]
      intro hx
      have h1 : i < a.length := by have := List.mem_range'.mp hi; omega
      rw [List.getElem?_append_left h1] at hx
      exact ha (List.mem_of_getElem? hx)
  unfold Txt.split
  rw [if_neg, hocc, if_neg (by simp)]
  · unfold partsBetween
    show [strSub _ 0 a.length, strSub _ (a.length + 1) (tx (a ++ n :: b)).length] = _
    rw [strSub_tx, strSub_tx, hlen]
    congr 1
    · rw [List.drop_zero, Nat.sub_zero, List.take_left]
    · congr 1
      rw [show a.length + 1 = a.length + 1 from rfl, ← List.drop_drop, List.drop_left]
      show tx ((b).take _) = _
      rw [List.take_of_length_le (by omega)]
  · rw [hlen]
    intro h
    rw [Bool.or_eq_true, decide_eq_true_eq, decide_eq_true_eq] at h
    rcases h with h | h
    · have : (tx [n]).length = 1 := rfl
      omega
    · have h1 : PySem.Builtin.Str.strKind (tx [n]) = 1 := by
        unfold PySem.Builtin.Str.strKind tx
        rw [if_pos (by simp [hn])]
      have h2 : 1 ≤ PySem.Builtin.Str.strKind (tx (a ++ n :: b)) := by unfold PySem.Builtin.Str.strKind; split; exact Nat.le_refl _; split <;> decide
      omega
theorem spl_one : ∀ {l : List Nat}, oneS l = true → ∃ a b, l = a ++ 5 :: b ∧ 5 ∉ a ∧ 5 ∉ b ∧ splA l = (a, b)
  | [], h => by cases h
  | c :: l, h => by
    cases hc : Nat.beq c 5 with
    | true =>
      have := Nat.eq_of_beq_eq_true hc
      subst this
      refine ⟨[], l, rfl, by simp, ?_, rfl⟩
      unfold oneS at h
      rw [List.filter_cons_of_pos rfl, Nat.beq_eq, List.length_cons] at h
      have : (l.filter fun c => Nat.beq c 5) = [] := List.length_eq_zero_iff.mp (by omega)
      intro hm
      have := List.filter_eq_nil_iff.mp this 5 hm
      exact this rfl
    | false =>
      have h' : oneS l = true := by
        unfold oneS at h ⊢
        rwa [List.filter_cons_of_neg (by simp [hc])] at h
      obtain ⟨a, b, e1, e2, e3, e4⟩ := spl_one h'
      refine ⟨c :: a, b, by rw [e1]; rfl, ?_, e3, ?_⟩
      · intro hm
        rcases List.mem_cons.mp hm with rfl | hm
        · cases hc
        · exact e2 hm
      · unfold splA at e4 ⊢
        rw [List.takeWhile_cons_of_pos (by simp [hc]), List.dropWhile_cons_of_pos (by simp [hc])]
        injection e4 with e5 e6
        rw [e5, e6]
section
variable {e : Nat → Nat} (he : Enc e)
include he
theorem split_te {l : List Nat} (h : oneS l = true) : Txt.split (te e l) (PySem.Str.ofString " ") = [te e (splA l).1, te e (splA l).2] := by
  obtain ⟨a, b, e1, e2, e3, e4⟩ := spl_one h
  have hn : ∀ x : List Nat, 5 ∉ x → 32 ∉ x.map e := fun x hx hm => by
    obtain ⟨c, hc, e⟩ := List.mem_map.mp hm
    rw [← he.sp] at e
    exact hx (he.inj _ _ e ▸ hc)
  have : PySem.Str.ofString " " = tx [32] := by decide +kernel
  rw [this, e4, e1]
  unfold te
  rw [List.map_append, List.map_cons, he.sp]
  exact split_tx _ _ 32 (hn _ e2) (hn _ e3) (by decide)
/- the table -/
theorem got_get {tbl : List Row} {tb : List Pr} (ht : tbl.map (·.2) = tb.map fun p => (p.1.map e, p.2.map e)) (nm : List Nat) : gotOne tbl (nm.map e) = (getA tb nm).map (·.map e) := by
  have h1 : gotOne tbl (nm.map e) = ((tbl.map (·.2)).find? fun t => t.1.map lo1 == (nm.map e).map lo1).map (·.2) := by
    unfold gotOne
    rw [List.find?_map, Option.map_map]
    rfl
  rw [h1, ht, te_lo he]
  unfold getA
  rw [List.find?_map, Option.map_map, Option.map_map]
  congr 1
  congr 1
  funext p
  show ((p.1.map e).map lo1 == (nm.map loA).map e) = eqL _ _
  rw [te_lo he, eqL_eq, Bool.eq_iff_iff, beq_iff_eq, beq_iff_eq, map_inj he]
theorem dd_te (xs : List (List Nat)) : ddS (xs.map (te e)) = (ddA xs).map (te e) := by
  have hh : ∀ (a : List Nat) (l : List (List Nat)), hasL a l = decide (te e a ∈ l.map (te e)) := fun a l => by
    induction l with
    | nil => rfl
    | cons x r ih =>
      rw [hasL, ih, eqL_eq, Bool.eq_iff_iff, Bool.or_eq_true, beq_iff_eq, decide_eq_true_eq, decide_eq_true_eq, List.map_cons, List.mem_cons, te_inj he]
      exact or_congr ⟨Eq.symm, Eq.symm⟩ Iff.rfl
  have key : ∀ (xs ks : List (List Nat)), (xs.map (te e)).foldl (fun ks x => if x ∈ ks then ks else ks ++ [x]) (ks.map (te e)) = (xs.foldl (fun ks x => bif hasL x ks then ks else ks ++ [x]) ks).map (te e) := fun xs => by
    induction xs with
    | nil => intro ks; rfl
    | cons x xs ih =>
      intro ks
      rw [List.map_cons, List.foldl_cons, List.foldl_cons, hh]
      by_cases h : te e x ∈ ks.map (te e)
      · rw [if_pos h, decide_eq_true h, cond_true]; exact ih ks
      · rw [if_neg h, decide_eq_false h, cond_false, ← ih, List.map_append]; rfl
  exact key xs []
end
/- sorted lists of texts -/
theorem rising_tail : ∀ {p : Str} {l : List Str}, risingS p l = true → sortedS l = true
  | _, [], _ => rfl
  | p, x :: r, h => by
    have h : (!ltCps x.cps.toList p.cps.toList && risingS x r) = true := h
    rw [Bool.and_eq_true] at h
    exact h.2
theorem rising_le : ∀ {p : Str} {l : List Str}, risingS p l = true → ∀ y ∈ l, p.cps.toList ≤ y.cps.toList
  | p, x :: r, h, y, hy => by
    have h : (!ltCps x.cps.toList p.cps.toList && risingS x r) = true := h
    rw [Bool.and_eq_true, ltCps_eq, Bool.not_eq_true', decide_eq_false_iff_not] at h
    have h1 : p.cps.toList ≤ x.cps.toList := List.not_lt.mp h.1
    rcases List.mem_cons.mp hy with rfl | hy
    · exact h1
    · exact List.le_trans h1 (rising_le h.2 y hy)
theorem sorted_pw : ∀ {l : List Str}, sortedS l = true → l.Pairwise fun a b => a.cps.toList ≤ b.cps.toList
  | [], _ => .nil
  | x :: r, h => .cons (rising_le h) (sorted_pw (rising_tail h))
theorem sorted_one {a b : List Str} (ha : sortedS a = true) (hb : sortedS b = true) (h : a.Perm b) : a = b :=
  List.Perm.eq_of_pairwise (le := fun a b : Str => a.cps.toList ≤ b.cps.toList) (fun x y _ _ h1 h2 => by
    have := List.le_antisymm h1 h2
    cases x; cases y
    congr 1
    exact Array.toList_inj.mp this) (sorted_pw ha) (sorted_pw hb) h
end Mine
end

section
set_option maxRecDepth 100000
namespace Mine
/- the distance does not see the spelling -/
section
variable {e : Nat → Nat} (he : Enc e)
include he
theorem sub_e {a b : Nat} (ha : a < 5) (hb : b < 5) : subC (e a) (e b) = subC a b := by
  have key : ∀ c : Nat, c < 5 → loA c = c ∧ lo1 c = c := fun c hc => by
    have key : ∀ c : Fin 5, loA c.1 = c.1 ∧ lo1 c.1 = c.1 := by decide
    exact key ⟨c, hc⟩
  unfold subC
  rw [he.lo, he.lo, (key a ha).1, (key b hb).1, (key a ha).2, (key b hb).2]
  by_cases h : a = b
  · subst h; rw [if_pos rfl, if_pos rfl]
  · rw [if_neg (fun x => h (he.inj _ _ x)), if_neg (fun x => h (he.inj _ _ x)), if_neg h, if_neg h]
theorem pre_e : ∀ a b : List Nat, preL (a.map e) (b.map e) = preL a b
  | [], _ => by cases ‹List Nat› <;> rfl
  | _ :: _, [] => rfl
  | x :: xs, y :: ys => by
    show (if e x = e y then 1 + preL (xs.map e) (ys.map e) else 0) = if x = y then 1 + preL xs ys else 0
    rw [pre_e xs ys]
    by_cases h : x = y
    · rw [h, if_pos rfl, if_pos rfl]
    · rw [if_neg (fun z => h (he.inj _ _ z)), if_neg h]
theorem suf_e (a b : List Nat) : sufL (a.map e) (b.map e) = sufL a b := by
  unfold sufL
  rw [← List.map_reverse, ← List.map_reverse, pre_e he]
theorem inner_e {bc : Nat} (hb : bc < 5) : ∀ (l : List (Nat × Int)) (d r mn : Int), (∀ p ∈ l, p.1 < 5) → inner (e bc) (l.map fun p => (e p.1, p.2)) d r mn = inner bc l d r mn
  | [], _, _, _, _ => rfl
  | (ac, rv) :: t, d, r, mn, h => by
    rw [List.map_cons]
    unfold inner
    rw [sub_e he hb (h (ac, rv) (.head _))]
    simp only [inner_e hb t _ _ _ fun p hp => h p (.tail _ hp)]
theorem outer_e {a : List Nat} (ha : ∀ c ∈ a, c < 5) (mc : Int) : ∀ (b : List Nat) (k : Nat) (row : List Int) (r : Int), (∀ c ∈ b, c < 5) → outer (a.map e) mc k (b.map e) row r = outer a mc k b row r
  | [], _, _, _, _ => rfl
  | bc :: t, k, row, r, h => by
    rw [List.map_cons]
    unfold outer
    have hz : (a.map e).zip row = (a.zip row).map fun p => (e p.1, p.2) := by rw [List.zip_map_left]; rfl
    rw [hz, inner_e he (h bc (.head _)) _ _ _ _ fun p hp => ha _ (List.of_mem_zip (a := p.1) (b := p.2) hp).1]
    simp only [outer_e ha mc t _ _ _ fun c hc => h c (.tail _ hc)]
theorem lev_e {a b : List Nat} (ha : ∀ c ∈ a, c < 5) (hb : ∀ c ∈ b, c < 5) (mc : Int) : levF (a.map e) (b.map e) mc = levF a b mc := by
  have hT : ∀ {a b : List Nat}, (∀ c ∈ a, c < 5) → (∀ c ∈ b, c < 5) → levT (a.map e) (b.map e) mc = levT a b mc := fun ha hb => by
    unfold levT
    rw [List.length_map, List.length_map, outer_e he ha mc _ _ _ _ hb]
  have hM : ∀ {a b : List Nat}, (∀ c ∈ a, c < 5) → (∀ c ∈ b, c < 5) → levM (a.map e) (b.map e) mc = levM a b mc := fun ha hb => by
    unfold levM
    rw [List.length_map, List.length_map, hT ha hb, hT hb ha]
    simp only [List.map_eq_nil_iff]
  unfold levF
  rw [pre_e he, ← List.map_drop, ← List.map_drop]
  have hS : levS2 ((a.drop (preL a b)).map e) ((b.drop (preL a b)).map e) mc = levS2 (a.drop (preL a b)) (b.drop (preL a b)) mc := by
    unfold levS2
    rw [suf_e he, List.length_map, List.length_map, ← List.map_take, ← List.map_take]
    exact hM (fun c hc => ha c (List.mem_of_mem_drop (List.mem_of_mem_take hc))) (fun c hc => hb c (List.mem_of_mem_drop (List.mem_of_mem_take hc)))
  rw [hS]
  by_cases h : a = b
  · rw [if_pos h, if_pos (congrArg _ h)]
  · rw [if_neg h, if_neg (fun x => h ((map_inj he).mp x))]
end
/- the spelling that the law draws -/
noncomputable def enc (T : Int) : Nat → Nat
  | 0 => 97 + (T % 25).toNat
  | 1 => 98 + (T % 25).toNat
  | 2 => unseenC (T + (0 : Nat))
  | 3 => unseenC (T + (1 : Nat))
  | 4 => unseenC (T + (2 : Nat))
  | 5 => 32
  | 6 => 65 + (T % 25).toNat
  | 7 => 66 + (T % 25).toNat
  | n + 8 => 2000008 + n
noncomputable def unsF (p : Nat) : Nat := (b1.getD (p % 27) 0).toNat
theorem uns_at (T : Int) (k : Nat) : unseenC (T + (k : Nat)) = unsF ((T % 27).toNat + k) := by
  unfold unseenC unsF
  congr 2
  omega
theorem uns_fact : ∀ p : Fin 29, 173 ≤ unsF p.1 ∧ unsF p.1 < 2000000 ∧ b1.contains ((unsF p.1 : Nat) : Int) = true := by decide +kernel
theorem uns_okc : ∀ p : Fin 29, Okc (unsF p.1) := by unfold Okc; decide +kernel
theorem b1_rng (n : Nat) (h : n < 173 ∨ 2000000 ≤ n) : b1.contains ((n : Nat) : Int) = false := by
  rw [Bool.eq_false_iff]
  intro hc
  rw [List.contains_iff_mem] at hc
  have key : ∀ x ∈ b1, 173 ≤ x ∧ x < 2000000 := by decide +kernel
  have := key _ hc
  omega
theorem nbeqf {a b : Nat} (h : a ≠ b) : Nat.beq a b = false := by
  rw [Bool.eq_false_iff]; exact fun x => h (Nat.eq_of_beq_eq_true x)
noncomputable def encF (t p : Nat) : Nat → Nat
  | 0 => 97 + t
  | 1 => 98 + t
  | 2 => unsF p
  | 3 => unsF (p + 1)
  | 4 => unsF (p + 2)
  | 5 => 32
  | 6 => 65 + t
  | 7 => 66 + t
  | n + 8 => 2000008 + n
theorem enc_eq (T : Int) : ∀ c, enc T c = encF (T % 25).toNat (T % 27).toNat c
  | 0 => rfl
  | 1 => rfl
  | 2 => uns_at T 0
  | 3 => uns_at T 1
  | 4 => uns_at T 2
  | 5 => rfl
  | 6 => rfl
  | 7 => rfl
  | _ + 8 => rfl
/-- back from the sign to its kind -/
noncomputable def decT (t v : Nat) : Nat := bif Nat.beq v 32 then 5 else bif Nat.beq v (65 + t) then 6 else bif Nat.beq v (66 + t) then 7 else bif Nat.beq v (97 + t) then 0 else 1
noncomputable def decP (p v : Nat) : Nat := bif Nat.beq v (unsF p) then 2 else bif Nat.beq v (unsF (p + 1)) then 3 else 4
noncomputable def decF (t p v : Nat) : Nat := bif Nat.ble 2000000 v then v - 2000000 else bif Nat.blt v 173 then decT t v else decP p v
noncomputable abbrev FT (t c v : Nat) : Prop := v < 173 ∧ decT t v = c ∧ lo1 v = encF t 0 (loA c) ∧ 32 ≤ v ∧ v ≠ 127 ∧ (isL c = true → 65 ≤ v ∧ v < 127)
noncomputable abbrev FP (p c v : Nat) : Prop := 173 ≤ v ∧ v < 2000000 ∧ decP p v = c ∧ lo1 v = v
theorem encT_ok : ((List.range 25).all fun t => [0, 1, 5, 6, 7].all fun c => decide (FT t c (encF t 0 c))) = true := by decide +kernel
theorem encP_ok : ((List.range 27).all fun p => [2, 3, 4].all fun c => decide (FP p c (encF 0 p c))) = true := by decide +kernel
theorem dec_small {t p v : Nat} (h : v < 173) : decF t p v = decT t v := by
  have h1 : Nat.ble 2000000 v = false := Bool.eq_false_iff.mpr fun x => by have := Nat.le_of_ble_eq_true x; omega
  have h2 : Nat.blt v 173 = true := Nat.ble_eq_true_of_le h
  unfold decF; rw [h1, h2, cond_false, cond_true]
theorem dec_mid {t p v : Nat} (h : 173 ≤ v) (h' : v < 2000000) : decF t p v = decP p v := by
  have h1 : Nat.ble 2000000 v = false := Bool.eq_false_iff.mpr fun x => by have := Nat.le_of_ble_eq_true x; omega
  have h2 : Nat.blt v 173 = false := Bool.eq_false_iff.mpr fun x => by have : v + 1 ≤ 173 := Nat.le_of_ble_eq_true x; omega
  unfold decF; rw [h1, h2, cond_false, cond_false]
theorem dec_big {t p n : Nat} : decF t p (2000008 + n) = n + 8 := by
  have h1 : Nat.ble 2000000 (2000008 + n) = true := Nat.ble_eq_true_of_le (by omega)
  unfold decF; rw [h1, cond_true]; omega
theorem enc_ok (T : Int) : Enc (enc T) := by
  have ht : (T % 25).toNat < 25 := by have := Int.emod_lt_of_pos T (show (0 : Int) < 25 by decide); omega
  have hp : (T % 27).toNat < 27 := by have := Int.emod_lt_of_pos T (show (0 : Int) < 27 by decide); omega
  rw [show enc T = encF (T % 25).toNat (T % 27).toNat from funext (enc_eq T)]
  generalize (T % 25).toNat = t at *
  generalize (T % 27).toNat = p at *
  have F : ∀ c, c ∈ [0, 1, 5, 6, 7] → FT t c (encF t 0 c) := fun c h => of_decide_eq_true (List.all_eq_true.mp (List.all_eq_true.mp encT_ok t (List.mem_range.mpr ht)) c h)
  have G : ∀ c, c ∈ [2, 3, 4] → FP p c (encF 0 p c) := fun c h => of_decide_eq_true (List.all_eq_true.mp (List.all_eq_true.mp encP_ok p (List.mem_range.mpr hp)) c h)
  have F0 := F 0 (by decide)
  have F1 := F 1 (by decide)
  have F5 := F 5 (by decide)
  have F6 := F 6 (by decide)
  have F7 := F 7 (by decide)
  have G2 := G 2 (by decide)
  have G3 := G 3 (by decide)
  have G4 := G 4 (by decide)
  have dT : ∀ {c}, FT t c (encF t 0 c) → decF t p (encF t 0 c) = c := fun h => (dec_small h.1).trans h.2.1
  have dP : ∀ {c}, FP p c (encF 0 p c) → decF t p (encF 0 p c) = c := fun h => (dec_mid h.1 h.2.1).trans h.2.2.1
  have d : ∀ c, decF t p (encF t p c) = c := fun c => match c with
    | 0 => dT F0
    | 1 => dT F1
    | 2 => dP G2
    | 3 => dP G3
    | 4 => dP G4
    | 5 => dT F5
    | 6 => dT F6
    | 7 => dT F7
    | n + 8 => dec_big
  have bT : ∀ {c}, FT t c (encF t 0 c) → b1.contains ((encF t 0 c : Nat) : Int) = false := fun h => b1_rng _ (.inl h.1)
  have u := fun k hk => uns_fact ⟨p + k, hk⟩
  have hn : ∀ n : Nat, 2000000 ≤ 2000008 + n := fun n => by omega
  have fT : ∀ {c v}, FT t c v → 32 ≤ v ∧ v ≠ 127 := fun h => ⟨h.2.2.2.1, h.2.2.2.2.1⟩
  have fP : ∀ {v : Nat}, 173 ≤ v → 32 ≤ v ∧ v ≠ 127 := fun h => by omega
  refine ⟨fun a b h => by rw [← d a, h, d b], fun c => match c with
    | 0 => F0.2.2.1
    | 1 => F1.2.2.1
    | 2 => G2.2.2.2
    | 3 => G3.2.2.2
    | 4 => G4.2.2.2
    | 5 => F5.2.2.1
    | 6 => F6.2.2.1
    | 7 => F7.2.2.1
    | n + 8 => ?_, fun c => match c with
    | 0 => bT F0
    | 1 => bT F1
    | 2 => (u 0 (by omega)).2.2
    | 3 => (u 1 (by omega)).2.2
    | 4 => (u 2 (by omega)).2.2
    | 5 => bT F5
    | 6 => bT F6
    | 7 => bT F7
    | n + 8 => b1_rng (2000008 + n) (.inr (hn n)), fun c => match c with
    | 0 => fT F0
    | 1 => fT F1
    | 2 => fP G2.1
    | 3 => fP G3.1
    | 4 => fP G4.1
    | 5 => fT F5
    | 6 => fT F6
    | 7 => fT F7
    | n + 8 => fP (v := 2000008 + n) (Nat.le_trans (by decide) (hn n)), fun c h => match c, h with
    | 0, h => F0.2.2.2.2.2 h
    | 1, h => F1.2.2.2.2.2 h
    | 2, h => nomatch h
    | 3, h => nomatch h
    | 4, h => nomatch h
    | 5, h => nomatch h
    | 6, h => F6.2.2.2.2.2 h
    | 7, h => F7.2.2.2.2.2 h
    | n + 8, h => (nomatch h), fun c h => match c, h with
    | 0, _ => ?_
    | 1, _ => ?_
    | n + 2, h => absurd h (by omega), by show 97 + t < 98 + t; omega, rfl, fun c h => match c, h with
    | 0, _ => Okc.ascii (n := 97 + t) (by omega)
    | 1, _ => Okc.ascii (n := 98 + t) (by omega)
    | 2, _ => uns_okc ⟨p, by omega⟩
    | 3, _ => uns_okc ⟨p + 1, by omega⟩
    | 4, _ => uns_okc ⟨p + 2, by omega⟩
    | n + 5, h => absurd h (by omega)⟩
  · show lo1 (2000008 + n) = 2000008 + n
    unfold lo1; rw [if_neg (by omega)]
  · show 97 + t = 65 + t + 32; omega
  · show 98 + t = 66 + t + 32; omega
end Mine
end

section
set_option maxRecDepth 100000
namespace Mine
theorem bin_cat_te {prog : Program} {w : World} {S0 : Shared} {c : Cx} {m : Ms} {σ : Sto} {K : V → Sto → Prop} {e : Nat → Nat} {a b : List Nat} (h : a.length + b.length ≤ 1000000) (k : K (.str (te e (a ++ b))) σ) : Bin prog w S0 c m σ .Add (.str (te e a)) (.str (te e b)) K :=
  bin_cat (sz (by rw [len_te, len_te]; exact h)) (by rw [te_app]; exact k)
theorem signs_te (e : Nat → Nat) (l : List Nat) : signs (te e l) = l.map fun c => V.str (te e [c]) := by
  unfold te
  rw [signs_tx, List.map_map]; rfl
theorem one_te (e : Nat → Nat) (c : Nat) : te e [c] = one (e c) := rfl
theorem join_te (e : Nat → Nat) (ls : List (List Nat)) : Txt.join (PySem.Str.ofString "") (ls.map (te e)) = te e ls.flatten := by
  rw [show ls.map (te e) = (ls.map fun l => l.map e).map tx by rw [List.map_map]; rfl, join_tx]
  unfold te
  rw [List.map_flatten]
theorem drop_at {α : Type} {l : List α} {k : Nat} {x : α} {xs : List α} (h : x :: xs = l.drop k) : k < l.length ∧ l[k]? = some x ∧ xs = l.drop (k + 1) := by
  have hl : k < l.length := by
    have := congrArg List.length h
    rw [List.length_cons, List.length_drop] at this; omega
  rw [List.drop_eq_getElem_cons hl] at h
  injection h with h1 h2
  exact ⟨hl, by rw [List.getElem?_eq_getElem hl, h1], h2⟩
section
variable {w : World} {S0 : Shared} {c : Cx} {m : Ms} {σ : Sto} {K : V → Sto → Prop} {mg mb : Str → Option Value} {e : Nat → Nat}
/- _law_word -/
theorem word_ok (H : Hd S0 mg mb) : ∃ pm cd, FnOk S0 aWord (mkFd stWord "_law_word" pm cd .none .none) (bodyOf stWord) (locals (scopeOf stWord)) :=
  H.f_word.ok (fun _ _ => ⟨rfl, rfl, rfl, rfl, rfl, rfl, rfl⟩) rfl rfl rfl (by decide +kernel) (by decide +kernel) (by decide +kernel)
theorem word (H : Hd S0 mg mb) (hroom : c.A.depth < recursionLimit) {pr : Addr} {n : Nat} (hn : n < 16) (hp : (pr, O.list [V.str (te e [0]), V.str (te e [1])]) ∈ σ) (h : K (.str (te e (wordA n))) σ) : Cal pw w S0 c m σ (.ref aWord) [.int n, .ref pr] [] K := by
  obtain ⟨pm, cd, FO⟩ := word_ok H
  refine cal_def H.B FO hroom (binds_pos (ns := ["number", "pair"]) rfl (fun vs hv => ?_) ⟨by rfl, fun L => ?_⟩)
  · obtain ⟨v, u, rfl⟩ := len2 hv
    rfl
  show Ex pw w S0 _ _ _ σ _
  -- word = ''
  refine ex_assign ?_
  refine ev_str ?_ -- ''
  rw [← te_nil (e := e)]
  refine sto_loc (i := 2) rfl rfl ?_ -- word
  -- left = number
  refine ex_assign ?_
  refine ev_loc (i := 0) rfl rfl rfl rfl ?_ -- number
  refine sto_loc (i := 3) rfl rfl ?_ -- left
  -- while left > 1:
  refine ex_whl (fun f m0 τ0 => ∃ (l : Nat) (acc : List Nat), m0 = [(1, .ref pr), (2, .str (te e acc)), (3, .int (l : Int))] ∧ τ0 = [] ++ σ ∧ wAcc f l acc = wordA n ∧ l < 2 * 2 ^ f ∧ acc.length + f ≤ 4) 4
    (m0 := [(1, .ref pr), (2, .str (te e [])), (3, .int (n : Int))]) (σ0 := σ) (.of ⟨rfl, rfl, rfl, trivial⟩ (.refl _)) ⟨n, [], rfl, rfl, rfl, by have : (2 : Nat) * 2 ^ 4 = 32 := rfl; omega, by decide⟩ ?_
  rintro f _ _ ⟨l, acc, rfl, rfl, hf, hl, hlen⟩
  refine et_cmp ?_ -- left > 1
  refine ev_loc (i := 3) rfl rfl rfl rfl ?_ -- left
  refine ev_int ?_ -- 1
  refine cmp_gt ?_
  refine tru_bool ?_
  refine ⟨fun ht => ?_, fun hfl => ?_⟩
  · have hk : 1 < l := by have := of_decide_eq_true ht; omega
    obtain ⟨g, rfl⟩ : ∃ g, f = g + 1 := by
      cases f with
      | zero => simp at hl; omega
      | succ g => exact ⟨g, rfl⟩
    -- word = pair[left % 2] + word
    refine ex_assign ?_
    refine ev_bin ?_
    refine ev_sub ?_
    refine ev_loc (i := 1) rfl rfl rfl rfl ?_ -- pair
    refine ev_bin ?_
    refine ev_loc (i := 3) rfl rfl rfl rfl ?_ -- left
    refine ev_int ?_ -- 2
    refine bin_mod (by decide) ?_
    rw [show ((l : Nat) : Int).fmod 2 = ((l % 2 : Nat) : Int) from fmod_nat _ 2]
    refine sub_list (xs := [V.str (te e [0]), V.str (te e [1])]) (x := .str (te e [l % 2])) hp (by simp; omega) (by omega) (by simp) (by
      rw [ix_nat]
      rcases Nat.mod_two_eq_zero_or_one l with h2 | h2 <;> rw [h2] <;> rfl) ?_
    refine ev_loc (i := 2) rfl rfl rfl rfl ?_ -- word
    refine bin_cat_te (by simp; omega) ?_
    refine sto_loc (i := 2) rfl rfl ?_ -- word
    -- left = left // 2
    refine ex_assign ?_
    refine ev_bin ?_
    refine ev_loc (i := 3) rfl rfl rfl rfl ?_ -- left
    refine ev_int ?_ -- 2
    refine bin_div (by decide) (PyProof.noPylong_small (by decide)) ?_
    rw [show ((l : Nat) : Int).fdiv 2 = ((l / 2 : Nat) : Int) from fdiv_nat _ 2]
    refine sto_loc (i := 3) rfl rfl ?_ -- left
    refine ex_nil ⟨g, [(1, .ref pr), (2, .str (te e (l % 2 :: acc))), (3, .int ((l / 2 : Nat) : Int))], _, by omega, .of ⟨rfl, rfl, rfl, trivial⟩ (.refl _), l / 2, l % 2 :: acc, rfl, rfl, ?_, ?_, ?_⟩
    · rw [← hf, wAcc, show Nat.blt 1 l = true from Nat.blt_eq.mpr hk, cond_true]
    · rw [Nat.pow_succ] at hl; omega
    · simp; omega
  · have hk : ¬ 1 < l := by have := of_decide_eq_false hfl; omega
    have hw : acc = wordA n := by
      rw [← hf]
      cases f with
      | zero => rfl
      | succ g => rw [wAcc, show Nat.blt 1 l = false from by rw [Bool.eq_false_iff]; exact fun x => hk (Nat.blt_eq.mp x), cond_false]
    -- return word
    refine ex_ret ?_
    refine ev_loc (i := 2) rfl rfl rfl rfl ?_ -- word
    rw [hw]
    exact ret_sub (m' := []) (.refl _) h
/- _law_bare -/
theorem bare_ok (H : Hd S0 mg mb) : ∃ pm cd, FnOk S0 aBare (mkFd stBare "_law_bare" pm cd .none .none) (bodyOf stBare) (locals (scopeOf stBare)) :=
  H.f_bare.ok (fun _ _ => ⟨rfl, rfl, rfl, rfl, rfl, rfl, rfl⟩) rfl rfl rfl (by decide +kernel) (by decide +kernel) (by decide +kernel)
/-- the signs that table B.1 does not name -/
theorem bare0 (H : Hd S0 mg mb) (hroom : c.A.depth + 1 < recursionLimit) {l : List Nat} (hl : l.length ≤ 1000000) (h : K (.str (tx (l.filter fun c : Nat => !b1.contains (c : Int)))) σ) : Cal pw w S0 c m σ (.ref aBare) [.str (tx l)] [] K := by
  obtain ⟨pm, cd, FO⟩ := bare_ok H
  refine cal_def H.B FO (by omega) (binds_pos (ns := ["text"]) rfl (fun vs hv => ?_) ⟨by rfl, fun L => ?_⟩)
  · obtain ⟨v, rfl⟩ : ∃ v, vs = [v] := List.length_eq_one_iff.mp hv
    rfl
  show Ex pw w S0 _ _ _ σ _
  refine ex_ret ?_
  refine ev_meth ?_
  refine ev_str ?_ -- ''
  refine mth_join ?_
  refine ⟨kpr_blt, ?_⟩
  refine evs_cons ?_
  refine ev_comp (cl := []) (names := [".0", "sign"]) (nd := by decide +kernel) rfl (by decide +kernel) (by decide +kernel) rfl ?_
  refine ev_loc (i := 0) rfl rfl rfl rfl ?_ -- text
  refine ⟨_, _, itb_str, trivial, fun L2 => ?_⟩
  rw [signs_tx]
  refine ct_filterA (fun c : Nat => V.str (one c)) (fun c : Nat => !b1.contains (c : Int)) (fun c : Nat => V.str (one c)) trivial (sz (by omega)) (fun s hs p q => ?_) ?_
  · refine asg_name (sto_loc (i := 1) rfl rfl ?_)
    refine et_not ?_
    refine et_plain ?_ -- in_table_b1(sign)
    refine ev_call ?_
    refine ev_glob (V0 := .ref aB1) H.B rfl rfl H.g_in_table_b1 rfl ?_
    refine ⟨H.f_b1.kpr, ?_⟩
    refine evs_cons ?_
    refine ev_loc (i := 1) rfl rfl rfl rfl ?_ -- sign
    refine evs_nil ?_
    refine in_b1 H (by show c.A.depth + 1 < _; omega) ?_
    refine tru_bool ?_
    refine ⟨rfl, .refl _, fun _ => ?_⟩
    refine ev_loc (i := 1) rfl rfl rfl rfl ?_ -- sign
    exact ⟨rfl, .refl _⟩
  refine ⟨_, .refl _, fun fl => ?_⟩
  generalize hF : (l.filter fun c : Nat => !b1.contains (c : Int)) = F at h ⊢
  have hFl : F.length ≤ 1000000 := by rw [← hF]; exact Nat.le_trans (List.length_filter_le _ _) hl
  rw [show (F.map fun c : Nat => V.str (one c)) = ((F.map fun c => [c]).map tx).map V.str by rw [List.map_map, List.map_map]; rfl]
  refine evs_nil ?_
  refine cal_join (mem_st (.head _)) ?_ ?_
  · refine join_ok0 1 (fun l hl => ?_) (by rw [List.length_map]; omega)
    obtain ⟨n, hn, rfl⟩ := List.mem_map.mp hl
    exact Nat.le_refl 1
  rw [join_tx, flat_ones]
  exact ret_sub (m' := []) (.cons _ (.refl _)) h
theorem bare (he : Enc e) (H : Hd S0 mg mb) (hroom : c.A.depth + 1 < recursionLimit) {l : List Nat} (hl : l.length ≤ 1000000) (h : K (.str (te e (bareA l))) σ) : Cal pw w S0 c m σ (.ref aBare) [.str (te e l)] [] K := by
  refine bare0 H hroom (by rw [List.length_map]; exact hl) ?_
  rw [List.filter_map]
  have : ((fun c : Nat => !b1.contains (c : Int)) ∘ e) = fun c => !isM c := funext fun c => by show (!b1.contains ((e c : Nat) : Int)) = _; rw [he.b1]
  rw [this]
  exact h
/- _law_row -/
theorem row_ok (H : Hd S0 mg mb) : ∃ pm cd, FnOk S0 aRow (mkFd stRow "_law_row" pm cd .none .none) (bodyOf stRow) (locals (scopeOf stRow)) :=
  H.f_row.ok (fun _ _ => ⟨rfl, rfl, rfl, rfl, rfl, rfl, rfl⟩) rfl rfl rfl (by decide +kernel) (by decide +kernel) (by decide +kernel)
noncomputable def rowStep (r : List (List Nat)) (c : Nat) : List (List Nat) := bif isM c then r ++ [[]] else r.dropLast ++ [r.getLastD [] ++ [c]]
theorem rowA_eq (l : List Nat) : rowA l = l.foldl rowStep [[]] := rfl
noncomputable def teV (e : Nat → Nat) (ls : List (List Nat)) : List V := ls.map fun l => V.str (te e l)
theorem teV_len (ls : List (List Nat)) : (teV e ls).length = ls.length := by unfold teV; rw [List.length_map]
theorem teV_app (a b : List (List Nat)) : teV e a ++ teV e b = teV e (a ++ b) := by unfold teV; rw [List.map_append]
theorem teV_strs (ls : List (List Nat)) : teV e ls = (ls.map (te e)).map V.str := by unfold teV; rw [List.map_map]; rfl
theorem row (he : Enc e) (H : Hd S0 mg mb) (hroom : c.A.depth < recursionLimit) {ma : Addr} {l : List Nat} (hl : l.length ≤ 1000) (hm : (ma, O.list (teV e [[2], [3], [4]])) ∈ σ) (h : ∀ a, K (.ref a) ((a, .list (teV e (rowA l))) :: σ)) :
    Cal pw w S0 c m σ (.ref aRow) [.str (te e l), .ref ma] [] K := by
  obtain ⟨pm, cd, FO⟩ := row_ok H
  refine cal_def H.B FO hroom (binds_pos (ns := ["text", "marks"]) rfl (fun vs hv => ?_) ⟨by rfl, fun L => ?_⟩)
  · obtain ⟨v, u, rfl⟩ := len2 hv
    rfl
  show Ex pw w S0 _ _ _ σ _
  -- row = ['']
  refine ex_assign ?_
  refine ev_list ?_
  refine evs_cons ?_
  refine ev_str ?_ -- ''
  refine evs_nil ?_
  refine ⟨sz (by simp), fun a => ?_⟩
  refine sto_loc (i := 2) rfl rfl ?_ -- row
  -- for sign in text:
  refine ex_for ?_
  refine ev_loc (i := 0) rfl rfl rfl rfl ?_ -- text
  refine ⟨_, _, itb_str, ?_⟩
  rw [signs_te]
  refine turns_gen (fun xs m0 T0 => ∃ (k : Nat) (a : Addr) (r : List (List Nat)), xs = (l.map fun c => V.str (te e [c])).drop k ∧ k ≤ l.length ∧ r = (l.take k).foldl rowStep [[]] ∧ r ≠ [] ∧ r.length ≤ k + 1 ∧ (∀ y ∈ r, y.length ≤ k) ∧
      Wk m0 T0 [(1, .ref ma), (2, .ref a)] ((a, .list (teV e r)) :: σ)) (fun _ _ _ _ => trivial) ?_ ?_ _ _ _ ?_
  · rintro y xs m0 T0 ⟨k, a, r, hx, hk, hr, hne, hrl, hyl, hw⟩ p
    rw [← List.map_drop] at hx
    cases hdk : l.drop k with
    | nil => rw [hdk] at hx; cases hx
    | cons j js =>
    obtain ⟨hlt, hget, hjs⟩ := drop_at hdk.symm
    rw [hdk] at hx
    obtain ⟨rfl, rfl⟩ : y = .str (te e [j]) ∧ xs = js.map fun c => V.str (te e [c]) := by
      have := List.cons.inj hx; exact ⟨this.1, this.2⟩
    have hst : (l.take (k + 1)).foldl rowStep [[]] = rowStep r j := by rw [List.take_add_one, hget, List.foldl_append, ← hr]; rfl
    refine asg_name (sto_loc (i := 3) rfl rfl ?_)
    refine Ex.wk (wk_cons hw 3 _) ?_
    -- if sign in marks:
    refine ex_if ?_
    refine et_cmp ?_ -- sign in marks
    refine ev_loc (i := 3) rfl rfl rfl rfl ?_ -- sign
    refine ev_loc (i := 1) rfl rfl rfl rfl ?_ -- marks
    refine cmp_in_strs (ys := [[2], [3], [4]].map (te e)) (mem_st (by rw [← teV_strs]; exact .tail _ hm)) ?_
    rw [show ([[2], [3], [4]].map (te e)).contains (te e [j]) = isM j by
      show ((te e [j] == te e [2]) || ((te e [j] == te e [3]) || ((te e [j] == te e [4]) || false))) = _
      rw [te_beq he, te_beq he, te_beq he]
      unfold isM eqL eqL
      simp]
    refine tru_bool ?_
    refine ⟨fun ht => ?_, fun hf => ?_⟩
    · -- row = row + ['']
      refine ex_assign ?_
      refine ev_bin ?_
      refine ev_loc (i := 2) rfl rfl rfl rfl ?_ -- row
      refine ev_list ?_
      refine evs_cons ?_
      refine ev_str ?_ -- ''
      refine evs_nil ?_
      refine ⟨sz (by simp), fun a1 => ?_⟩
      refine bin_lcat (.tail _ (.head _)) (.head _) (sz (by rw [teV_len]; simp; omega)) fun a2 => ?_
      refine sto_loc (i := 2) rfl rfl ?_ -- row
      refine ex_nil (ex_nil ⟨_, _, Wk.rfl, k + 1, a2, r ++ [[]], ?_, hlt, ?_, by simp, by simp; omega, ?_, ?_⟩)
      · rw [← List.map_drop, hjs]
      · rw [hst]; unfold rowStep; rw [ht]; rfl
      · intro y hy
        rcases List.mem_append.mp hy with hy | hy
        · have := hyl y hy; omega
        · obtain rfl := List.mem_singleton.mp hy; simp
      · exact .of ⟨rfl, rfl, trivial⟩ (by rw [← teV_app]; exact .cons_cons _ (.cons _ (.cons _ (.refl _))))
    · -- row = row[:-1] + [row[-1] + sign]
      have hrlen : 0 < r.length := List.length_pos_iff.mpr hne
      have hlast : r[r.length - 1]? = some (r.getLastD []) := by
        rw [List.getLastD_eq_getLast?, List.getLast?_eq_getElem?]
        rw [List.getElem?_eq_getElem (by omega)]; rfl
      have hll := hyl _ (List.mem_of_getElem? hlast)
      refine ex_assign ?_
      refine ev_bin ?_
      refine ev_lslice ?_
      refine ev_loc (i := 2) rfl rfl rfl rfl ?_ -- row
      refine pt_none ?_
      refine pt_some ?_
      refine ev_neg ?_
      refine ev_int ?_ -- 1
      refine ⟨_, rfl, ?_⟩
      refine .inl ⟨_, rfl, ?_⟩
      refine ⟨a, teV e r, rfl, .head _, sz (by rw [teV_len]; omega), fun a1 => ?_⟩
      rw [show cut (teV e r) .none (some (-1)) = teV e r.dropLast by rw [cutL]; unfold teV; rw [List.map_dropLast]]
      refine ev_list ?_
      refine evs_cons ?_
      refine ev_bin ?_
      refine ev_sub ?_
      refine ev_loc (i := 2) rfl rfl rfl rfl ?_ -- row
      refine ev_neg ?_
      refine ev_int ?_ -- 1
      refine ⟨_, rfl, ?_⟩
      refine sub_list (xs := teV e r) (x := .str (te e (r.getLastD []))) (.tail _ (.head _)) (by rw [teV_len]; omega) (by decide) (by rw [teV_len]; omega) (by
        rw [teV_len, show ix r.length (-1) = r.length - 1 by unfold ix; rw [if_pos (by decide)]; omega]
        unfold teV
        rw [List.getElem?_map, hlast]; rfl) ?_
      refine ev_loc (i := 3) rfl rfl rfl rfl ?_ -- sign
      refine bin_cat_te (by show _ + 1 ≤ _; omega) ?_
      refine evs_nil ?_
      refine ⟨sz (by simp), fun a2 => ?_⟩
      refine bin_lcat (.tail _ (.head _)) (.head _) (sz (by rw [teV_len, List.length_dropLast]; simp; omega)) fun a3 => ?_
      refine sto_loc (i := 2) rfl rfl ?_ -- row
      refine ex_nil (ex_nil ⟨_, _, Wk.rfl, k + 1, a3, r.dropLast ++ [r.getLastD [] ++ [j]], ?_, hlt, ?_, by simp, by rw [List.length_append, List.length_dropLast]; simp; omega, ?_, ?_⟩)
      · rw [← List.map_drop, hjs]
      · rw [hst]; unfold rowStep; rw [hf]; rfl
      · intro y hy
        rcases List.mem_append.mp hy with hy | hy
        · have := hyl y (List.dropLast_subset _ hy); omega
        · obtain rfl := List.mem_singleton.mp hy; rw [List.length_append]; show _ + 1 ≤ _; omega
      · exact .of ⟨rfl, rfl, trivial⟩ (by rw [← teV_app]; exact .cons_cons _ (.cons _ (.cons _ (.cons _ (.refl _)))))
  · rintro m0 T0 ⟨k, a, r, hx, hk, hr, hne, hrl, hyl, hw⟩
    have : k = l.length := by
      have := congrArg List.length hx
      simp at this; omega
    subst this
    rw [List.take_length, ← rowA_eq] at hr
    subst hr
    refine Ex.wk hw ?_
    -- return row
    refine ex_ret ?_
    refine ev_loc (i := 2) rfl rfl rfl rfl ?_ -- row
    exact ret_sub (m' := []) (.refl _) (h a)
  · exact ⟨0, a, [[]], rfl, by omega, rfl, by simp, by simp, by simp, .of ⟨rfl, rfl, trivial⟩ (.refl _)⟩
end
end Mine
end

section
set_option maxRecDepth 100000
namespace Mine
/-- rows that spell pairs -/
noncomputable def Reps (e : Nat → Nat) (tbl : List Row) (tb : List Pr) : Prop := tbl.map (·.2) = tb.map fun p => (p.1.map e, p.2.map e)
theorem Reps.len {e : Nat → Nat} {tbl : List Row} {tb : List Pr} (h : Reps e tbl tb) : tbl.length = tb.length := by
  have := congrArg List.length h
  rwa [List.length_map, List.length_map] at this
theorem Reps.app {e : Nat → Nat} {tbl : List Row} {tb : List Pr} (h : Reps e tbl tb) (t : Addr) (p : Pr) : Reps e (tbl ++ [(t, p.1.map e, p.2.map e)]) (tb ++ [p]) := by
  unfold Reps
  rw [List.map_append, List.map_append, h]; rfl
theorem Reps.all {e : Nat → Nat} {tbl : List Row} {tb : List Pr} (h : Reps e tbl tb) {t : Row} (ht : t ∈ tbl) : ∃ p ∈ tb, t.2.1 = p.1.map e ∧ t.2.2 = p.2.map e := by
  have hm : t.2 ∈ tbl.map (·.2) := List.mem_map_of_mem ht
  rw [h] at hm
  obtain ⟨p, hp, e1⟩ := List.mem_map.mp hm
  exact ⟨p, hp, by rw [← e1], by rw [← e1]⟩
theorem Reps.at {e : Nat → Nat} {tbl : List Row} {tb : List Pr} (h : Reps e tbl tb) {i : Nat} {p : Pr} (hp : tb[i]? = some p) : ∃ t, tbl[i]? = some (t, p.1.map e, p.2.map e) := by
  have hm : (tbl.map (·.2))[i]? = some (p.1.map e, p.2.map e) := by rw [h, List.getElem?_map, hp]; rfl
  rw [List.getElem?_map] at hm
  cases ht : tbl[i]? with
  | none => rw [ht] at hm; cases hm
  | some t =>
    rw [ht] at hm
    exact ⟨t.1, by rw [← Option.some.inj hm]⟩
theorem nb_lt {a b : Nat} (h : Nat.blt a b = true) : a < b := Nat.blt_eq.mp h
theorem okT_ltr {e : Nat → Nat} (he : Enc e) {tbl : List Row} {tb : List Pr} (h : Reps e tbl tb) (ok : okT tb = true) : (∀ t ∈ tbl, Ltr t.2.1 ∧ t.2.1.length ≤ 100000) ∧ tbl.length < 50 ∧ ∀ t ∈ tbl, t.2.2.length < 400 := by
  unfold okT at ok
  rw [Bool.and_eq_true, List.all_eq_true] at ok
  refine ⟨fun t ht => ?_, by rw [h.len]; exact nb_lt ok.1, fun t ht => ?_⟩
  · obtain ⟨p, hp, e1, e2⟩ := h.all ht
    have := ok.2 p hp
    rw [Bool.and_eq_true, Bool.and_eq_true] at this
    rw [e1]
    refine ⟨te_ltr he this.1, ?_⟩
    rw [List.length_map]
    have := nb_lt this.2.1
    omega
  · obtain ⟨p, hp, e1, e2⟩ := h.all ht
    have := ok.2 p hp
    rw [Bool.and_eq_true, Bool.and_eq_true] at this
    rw [e2, List.length_map]
    exact nb_lt this.2.2
/-- the line beside the table -/
noncomputable def Ln (ln : Addr) (ls : List Row) : Sto := (ln, .list (ls.map fun t => V.ref t.1)) :: ls.map rowO
noncomputable def LT (x d hl : Addr) (tbl : List Row) (ln : Addr) (ls : List Row) (σ : Sto) : Sto := Tb x d hl tbl ++ (Ln ln ls ++ σ)
theorem sp_te {e : Nat → Nat} (he : Enc e) : PySem.Str.ofString " " = te e [5] := by
  unfold te
  show _ = tx [e 5]
  rw [he.sp]
  decide +kernel
theorem okE_at {en : List Nat} (h : okE en = true) : (∀ c ∈ en, c < 2) ∧ en.length < 50 := by
  unfold okE at h
  rw [Bool.and_eq_true, List.all_eq_true] at h
  exact ⟨fun c hc => nb_lt (h.1 c hc), nb_lt h.2⟩
theorem name_ltr {n : Nat} {en : List Nat} (h : okE en = true) : (nameA n en).all isL = true := by
  have h := (okE_at h).1
  rw [List.all_eq_true]
  have h01 : ∀ c : Nat, c < 2 → isL c = true ∧ isL (upA c) = true := fun c hc => by
    have key : ∀ c : Fin 2, isL c.1 = true ∧ isL (upA c.1) = true := by decide
    exact key ⟨c, hc⟩
  intro c hc
  unfold nameA at hc
  cases hb : Nat.beq (n % 2) 1 <;> rw [hb] at hc
  · exact (h01 c (h c hc)).1
  · obtain ⟨a, ha, rfl⟩ := List.mem_map.mp hc
    exact (h01 a (h a ha)).2
theorem name_len (n : Nat) (en : List Nat) : (nameA n en).length = en.length := by
  unfold nameA
  cases Nat.beq (n % 2) 1
  · rfl
  · show (en.map upA).length = _; rw [List.length_map]
section
variable {w : World} {S0 : Shared} {Kf : Frag} {c : Cx} {m : Ms} {σ : Sto} {K : V → Sto → Prop} {mg mb : Str → Option Value} {e : Nat → Nat}
theorem lay_ok (H : Hd S0 mg mb) : ∃ pm cd, FnOk S0 aLay (mkFd stLay "_law_lay" pm cd .none .none) (bodyOf stLay) (locals (scopeOf stLay)) :=
  H.f_lay.ok (fun _ _ => ⟨rfl, rfl, rfl, rfl, rfl, rfl, rfl⟩) rfl rfl rfl (by decide +kernel) (by decide +kernel) (by decide +kernel)
theorem len5 {α : Type} {l : List α} (h : l.length = 5) : ∃ a b c d e, l = [a, b, c, d, e] := by
  match l, h with
  | [a, b, c, d, e], _ => exact ⟨a, b, c, d, e, rfl⟩
theorem lay (he : Enc e) (H : Hc S0 Kf mg mb) (hroom : c.A.depth + 3 < recursionLimit) {x d hl ln : Addr} {tbl ls : List Row} {s : St} {en more less : List Nat} {k : St → Bool} (r1 : Reps e tbl s.1) (r2 : Reps e ls s.2) (hk : layK s en more less k = true)
    (h : ∀ tbl' ls' s', Reps e tbl' s'.1 → Reps e ls' s'.2 → k s' = true → K .none (LT x d hl tbl' ln ls' σ)) : Cal pw w S0 c m (LT x d hl tbl ln ls σ) (.ref aLay) [.ref x, .ref ln, .str (te e en), .str (te e more), .str (te e less)] [] K := by
  obtain ⟨pm, cd, FO⟩ := lay_ok H.H
  unfold layK at hk
  rw [Bool.and_eq_true, Bool.and_eq_true, Bool.and_eq_true, Bool.and_eq_true, Bool.and_eq_true] at hk
  obtain ⟨hE, hm1, hl1, hT, hL, hk⟩ := hk
  obtain ⟨hE2, hEl⟩ := okE_at hE
  have hm1 := nb_lt hm1
  have hl1 := nb_lt hl1
  have hL := nb_lt hL
  obtain ⟨t1, t2, t3⟩ := okT_ltr he r1 hT
  have hN := name_ltr (n := s.2.length) hE
  have hNl := name_len s.2.length en
  have hvl : (valA more less).length < 300 := by unfold valA; simp; omega
  have hlen2 := r2.len
  refine cal_def H.H.B FO (by omega) (binds_pos (ns := ["table", "line", "end", "more", "less"]) rfl (fun vs hv => ?_) ⟨by rfl, fun L => ?_⟩)
  · obtain ⟨v, u, t, y, z, rfl⟩ := len5 hv
    rfl
  show Ex pw w S0 _ _ _ (LT x d hl tbl ln ls σ) _
  have hlnm : (ln, O.list (ls.map fun t => V.ref t.1)) ∈ LT x d hl tbl ln ls σ := List.mem_append_right _ (.head _)
  -- name = ''.join([chr(ord(sign) - 32) for sign in end]) if len(line) % 2 == 1 else end
  refine ex_assign ?_
  refine Ev.mono (K := fun v σ' => v = .str (te e (nameA s.2.length en)) ∧ (LT x d hl tbl ln ls σ).Sublist σ') ?_ ?_
  · refine ev_if ?_
    refine et_cmp ?_ -- len(line) % 2 == 1
    refine ev_bin ?_
    refine ev_call ?_ -- len(line)
    refine ev_blt H.H.B rfl rfl (by decide) H.H.no_len boot_len ?_
    refine ⟨kpr_blt, ?_⟩
    refine evs_cons ?_
    refine ev_loc (i := 1) rfl rfl rfl rfl ?_ -- line
    refine evs_nil ?_
    refine cal_len_list (xs := ls.map fun t => V.ref t.1) (mem_st hlnm) (by rw [List.length_map]; omega) ?_
    rw [List.length_map, hlen2]
    refine ev_int ?_ -- 2
    refine bin_mod (by decide) ?_
    rw [show ((s.2.length : Nat) : Int).fmod 2 = ((s.2.length % 2 : Nat) : Int) from fmod_nat _ 2]
    refine ev_int ?_ -- 1
    refine cmp_eq ?_
    refine tru_bool ?_
    refine ⟨fun h1 => ?_, fun h1 => ?_⟩
    · have h1 : Nat.beq (s.2.length % 2) 1 = true := by have := eq_of_beq h1; rw [Nat.beq_eq]; omega
      refine ev_meth ?_
      refine ev_str ?_ -- ''
      refine mth_join ?_
      refine ⟨kpr_blt, ?_⟩
      refine evs_cons ?_
      refine ev_comp (cl := []) (names := [".0", "sign"]) (nd := by decide +kernel) rfl (by decide +kernel) (by decide +kernel) rfl ?_
      refine ev_loc (i := 2) rfl rfl rfl rfl ?_ -- end
      refine ⟨_, _, itb_str, trivial, fun L2 => ?_⟩
      rw [signs_te]
      refine ct_mapA (fun c : Nat => V.str (te e [c])) (fun c : Nat => V.str (te e [upA c])) trivial (sz (by omega)) (fun s hs p q => ?_) ?_
      · have h2 := hE2 s hs
        have hup := he.up s h2
        have hlt := he.ltr (s + 6) (by
          have key : ∀ c : Fin 2, isL (c.1 + 6) = true := by decide
          exact key ⟨s, h2⟩)
        refine asg_name (sto_loc (i := 1) rfl rfl ?_)
        refine ev_call ?_ -- chr(ord(sign) - 32)
        refine ev_blt H.H.B rfl rfl (by decide) H.H.no_chr boot_chr ?_
        refine ⟨kpr_blt, ?_⟩
        refine evs_cons ?_
        refine ev_bin ?_
        refine ev_call ?_ -- ord(sign)
        refine ev_blt H.H.B rfl rfl (by decide) H.H.no_ord boot_ord ?_
        refine ⟨kpr_blt, ?_⟩
        refine evs_cons ?_
        refine ev_loc (i := 1) rfl rfl rfl rfl ?_ -- sign
        refine evs_nil ?_
        rw [one_te]
        refine cal_ord ?_
        refine ev_int ?_ -- 32
        refine bin_sub ?_ -- ord(sign) - 32
        refine evs_nil ?_
        refine cal_chr (by omega) (by omega) ?_
        refine ⟨?_, .refl _⟩
        rw [show ((e s : Nat) : Int) - 32 = ((e (upA s) : Nat) : Int) by unfold upA; omega]
        rfl
      refine ⟨_, .refl _, fun fl => ?_⟩
      rw [show (en.map fun c : Nat => V.str (te e [upA c])) = ((en.map fun c => [upA c]).map (te e)).map V.str by rw [List.map_map, List.map_map]; rfl]
      refine evs_nil ?_
      refine cal_join (mem_st (.head _)) ?_ ?_
      · rw [show (en.map fun c => [upA c]).map (te e) = (en.map fun c => [e (upA c)]).map tx by rw [List.map_map, List.map_map]; rfl]
        refine join_ok0 1 (fun l hl => ?_) (by rw [List.length_map]; omega)
        obtain ⟨n, hn, rfl⟩ := List.mem_map.mp hl
        exact Nat.le_refl 1
      rw [join_te]
      refine ⟨?_, .cons _ (.refl _)⟩
      unfold nameA
      rw [h1, cond_true, show (en.map fun c => [upA c]) = (en.map upA).map fun c => [c] by rw [List.map_map]; rfl, flat_ones]
    · have h1 : Nat.beq (s.2.length % 2) 1 = false := by
        have := beq_eq_false_iff_ne.mp h1
        exact nbeqf (by omega)
      refine ev_loc (i := 2) rfl rfl rfl rfl ?_ -- end
      refine ⟨?_, .refl _⟩
      unfold nameA
      rw [h1, cond_false]
  rintro _ σ1 ⟨rfl, hsub⟩
  refine sto_loc (i := 5) rfl rfl ?_ -- name
  generalize hNm : nameA s.2.length en = nm at hk hN hNl ⊢
  have hval : more ++ [5] ++ less = valA more less := rfl
  refine Ex.wk (m' := [(0, .ref x), (1, .ref ln), (3, .str (te e more)), (4, .str (te e less)), (5, .str (te e nm))]) (.of ⟨rfl, rfl, rfl, rfl, rfl, trivial⟩ hsub) ?_
  -- if table.setdefault(name, more + ' ' + less) == more + ' ' + less:
  refine ex_if ?_
  refine et_cmp ?_
  refine Ev.mono (K := fun v σ' => ∃ v0 tbl1 tb1, v = .str (te e v0) ∧ σ' = LT x d hl tbl1 ln ls σ ∧ Reps e tbl1 tb1 ∧ (eqL v0 (valA more less) = true → k (tb1, s.2 ++ [(nm, valA more less)]) = true) ∧ (eqL v0 (valA more less) = false → k (tb1, s.2) = true)) ?_ ?_
  · refine ev_meth ?_ -- table.setdefault(..)
    refine ev_loc (i := 0) rfl rfl rfl rfl ?_ -- table
    refine mth_own (x := x) (mem_st (.head _)) (mem_st (.tail _ (.head _))) H.ck H.c_setd H.t_setd (by decide) ?_
    refine ⟨H.f_setd.kpr, ?_⟩
    refine evs_cons ?_
    refine ev_loc (i := 5) rfl rfl rfl rfl ?_ -- name
    refine evs_cons ?_
    refine ev_bin ?_
    refine ev_bin ?_
    refine ev_loc (i := 3) rfl rfl rfl rfl ?_ -- more
    refine ev_str ?_ -- ' '
    rw [sp_te he]
    refine bin_cat_te (by simp; omega) ?_ -- more + ' '
    refine ev_loc (i := 4) rfl rfl rfl rfl ?_ -- less
    refine bin_cat_te (by simp; omega) ?_ -- more + ' ' + less
    rw [hval]
    refine evs_nil ?_
    have hg := got_get he r1 nm
    refine setd (x := x) (d := d) (hl := hl) (tbl := tbl) (nm := nm.map e) (vl := (valA more less).map e) H (by show c.A.depth + 1 + 2 < _; omega) (te_ltr he hN) (by rw [List.length_map]; omega) t1 (te_fine he _) (by rw [List.length_map]; omega) (by omega) (fun v hv => ?_) (fun hv t => ?_)
    · rw [hg] at hv
      cases hG : getA s.1 nm with
      | none => rw [hG] at hv; cases hv
      | some v0 =>
        rw [hG] at hv hk
        obtain rfl := Option.some.inj hv
        refine ⟨v0, tbl, s.1, rfl, rfl, r1, fun h1 => ?_, fun h1 => ?_⟩
        · simp only [h1, cond_true] at hk; exact hk
        · simp only [h1, cond_false] at hk; exact hk
    · rw [hg] at hv
      cases hG : getA s.1 nm with
      | some v0 => rw [hG] at hv; cases hv
      | none =>
        rw [hG] at hk
        refine ⟨valA more less, _, _, rfl, rfl, r1.app t (nm, valA more less), fun _ => hk, fun h1 => ?_⟩
        rw [eqL_eq, beq_self_eq_true] at h1; cases h1
  rintro _ _ ⟨v0, tbl1, tb1, rfl, rfl, r1', k1, k2⟩
  refine ev_bin ?_
  refine ev_bin ?_
  refine ev_loc (i := 3) rfl rfl rfl rfl ?_ -- more
  refine ev_str ?_ -- ' '
  rw [sp_te he]
  refine bin_cat_te (by simp; omega) ?_ -- more + ' '
  refine ev_loc (i := 4) rfl rfl rfl rfl ?_ -- less
  refine bin_cat_te (by simp; omega) ?_ -- more + ' ' + less
  rw [hval]
  refine cmp_seq ?_
  rw [te_beq he]
  refine tru_bool ?_
  refine ⟨fun ht => ?_, fun hf => ?_⟩
  · -- line.append((name, more + ' ' + less))
    refine ex_expr ?_
    refine ev_meth ?_
    refine ev_loc (i := 1) rfl rfl rfl rfl ?_ -- line
    refine mth_append (mem_st (List.mem_append_right _ (.head _))) ?_
    refine ⟨kpr_blt, ?_⟩
    refine evs_cons ?_
    refine ev_tuple ?_
    refine evs_cons ?_
    refine ev_loc (i := 5) rfl rfl rfl rfl ?_ -- name
    refine evs_cons ?_
    refine ev_bin ?_
    refine ev_bin ?_
    refine ev_loc (i := 3) rfl rfl rfl rfl ?_ -- more
    refine ev_str ?_ -- ' '
    refine bin_cat_te (by simp; omega) ?_ -- more + ' '
    refine ev_loc (i := 4) rfl rfl rfl rfl ?_ -- less
    refine bin_cat_te (by simp; omega) ?_ -- more + ' ' + less
    rw [hval]
    refine evs_nil ?_
    refine ⟨sz (by simp), fun tp => ?_⟩
    refine evs_nil ?_
    refine cal_append (.tail (Upd.app .head (Tb x d hl tbl1))) (sz (by rw [List.length_map]; omega)) ?_
    refine ex_nil (ex_nil ⟨LT x d hl tbl1 ln (ls ++ [(tp, nm.map e, (valA more less).map e)]) σ, Imp.perm (.cons _ (.append_left _ ?_)), h _ _ (tb1, s.2 ++ [(nm, valA more less)]) r1' (r2.app tp (nm, valA more less)) (k1 ht)⟩)
    unfold LT Ln
    rw [List.map_append, List.map_append]
    show List.Perm ((tp, O.tuple [V.str (te e nm), V.str (te e (valA more less))]) :: (Tb x d hl tbl1 ++ ((ln, O.list (ls.map (fun t => V.ref t.1) ++ [V.ref tp])) :: (ls.map rowO ++ σ)))) (Tb x d hl tbl1 ++ ((ln, O.list (ls.map (fun t => V.ref t.1) ++ [V.ref tp])) :: ((ls.map rowO ++ [rowO (tp, nm.map e, (valA more less).map e)]) ++ σ)))
    refine List.perm_middle.symm.trans (.append_left _ ((List.Perm.swap _ _ _).trans (.cons _ ?_)))
    rw [List.append_assoc]
    exact List.perm_middle.symm
  · refine ex_nil (ex_nil ?_)
    exact ret_none (.refl _) (h _ _ (tb1, s.2) r1' r2 (k2 hf))
end
end Mine
end

section
set_option maxRecDepth 100000
namespace Mine
section
variable {prog : Program} {w : World} {S0 : Shared} {c : Cx} {m : Ms} {σ : Sto}
theorem CT.mono {P : Sto → Prop} {t elt : Expr} {ifs : List Expr} {K K' : List V → Ms → Sto → Prop} : ∀ {xs ys : List V} {m : Ms} {τ : Sto}, CT prog w S0 c P t ifs elt K xs ys m τ → (∀ ys m τ, K ys m τ → K' ys m τ) → CT prog w S0 c P t ifs elt K' xs ys m τ
  | [], _, _, _, h, k => ⟨h.1, k _ _ _ h.2⟩
  | x :: xs, _, _, _, h, k => ⟨h.1, h.2.1, fun p q => Asg.mono (h.2.2 p q) fun m1 τ1 h1 => Tst.mono h1 fun b τ2 ⟨h2, h3⟩ => ⟨fun e => Ev.mono (h2 e) fun y τ3 ⟨m'', τ'', hw, hc⟩ => ⟨m'', τ'', hw, CT.mono hc k⟩, fun e => by
      obtain ⟨m'', τ'', hw, hc⟩ := h3 e
      exact ⟨m'', τ'', hw, CT.mono hc k⟩⟩⟩
/-- a comprehension's turns under what is kept -/
theorem ct_inv {α : Type} {P : Sto → Prop} {t elt : Expr} {ifs : List Expr} {K : List V → Ms → Sto → Prop} (f : α → V) (Iv : List α → List V → Ms → Sto → Prop) (hP : ∀ xs ys m T, Iv xs ys m T → P (c.st m T))
    (step : ∀ x xs ys m T, Iv (x :: xs) ys m T → ys.length ≤ sizeLine ∧ ∀ p q, Asg prog w S0 ((c.push q).push p) t (f x) m T fun m1 τ1 => Tst prog w S0 ((c.push q).push p) ifs m1 τ1 fun b τ2 =>
      (b = true → Ev prog w S0 ((c.push q).push p) elt m1 τ2 fun y τ3 => ∃ m'' τ'', Wk m1 τ3 m'' τ'' ∧ Iv xs (ys ++ [y]) m'' τ'') ∧ (b = false → ∃ m'' τ'', Wk m1 τ2 m'' τ'' ∧ Iv xs ys m'' τ''))
    (fin : ∀ ys m T, Iv [] ys m T → K ys m T) : ∀ (xs : List α) (ys : List V) (m : Ms) (T : Sto), Iv xs ys m T → CT prog w S0 c P t ifs elt K (xs.map f) ys m T
  | [], ys, m, T, h => ⟨hP _ _ _ _ h, fin _ _ _ h⟩
  | x :: xs, ys, m, T, h => ⟨hP _ _ _ _ h, (step x xs ys m T h).1, fun p q => Asg.mono ((step x xs ys m T h).2 p q) fun m1 τ1 h1 => Tst.mono h1 fun b τ2 ⟨h2, h3⟩ =>
      ⟨fun e => Ev.mono (h2 e) fun y τ3 ⟨m'', τ'', hw, hI⟩ => ⟨m'', τ'', hw, ct_inv f Iv hP step fin xs _ _ _ hI⟩, fun e => by
        obtain ⟨m'', τ'', hw, hI⟩ := h3 e
        exact ⟨m'', τ'', hw, ct_inv f Iv hP step fin xs _ _ _ hI⟩⟩⟩
/-- the same for the outer one of two loops -/
theorem ct2_inv {α : Type} {P : Sto → Prop} {t1 t2 i2 elt : Expr} {ifs : List Expr} {K : List V → Ms → Sto → Prop} (f : α → V) (Iv : List α → List V → Ms → Sto → Prop) (hP : ∀ xs ys m T, Iv xs ys m T → P (c.st m T))
    (step : ∀ x xs ys m T, Iv (x :: xs) ys m T → ∀ p q, Asg prog w S0 ((c.push q).push p) t1 (f x) m T fun m1 τ1 => Ev prog w S0 ((c.push q).push p) i2 m1 τ1 fun y τ2 => ∃ xs2 P2, Itb prog w S0 y xs2 P2 ∧ P2 (((c.push q).push p).st m1 τ2) ∧ P2 ((c.push p).st m1 τ2) ∧
      CT prog w S0 (c.push p) P2 t2 ifs elt (fun ys' m' τ' => ∃ m'' τ'', Wk m' τ' m'' τ'' ∧ Iv xs ys' m'' τ'') xs2 ys m1 τ2)
    (fin : ∀ ys m T, Iv [] ys m T → K ys m T) : ∀ (xs : List α) (ys : List V) (m : Ms) (T : Sto), Iv xs ys m T → CT2 prog w S0 c P t1 t2 i2 ifs elt K (xs.map f) ys m T
  | [], ys, m, T, h => ⟨hP _ _ _ _ h, fin _ _ _ h⟩
  | x :: xs, ys, m, T, h => ⟨hP _ _ _ _ h, fun p q => Asg.mono (step x xs ys m T h p q) fun m1 τ1 h1 => Ev.mono h1 fun y τ2 ⟨xs2, P2, i, p1, p2, hc⟩ => ⟨xs2, P2, i, p1, p2, CT.mono hc fun ys' m' τ' ⟨m'', τ'', hw, hI⟩ => ⟨m'', τ'', hw, ct2_inv f Iv hP step fin xs _ _ _ hI⟩⟩⟩
end
end Mine
end

section
set_option maxRecDepth 100000
namespace Mine
noncomputable def toP (ls : List Row) : Prs := ls.map fun t => (t.1, tx t.2.1, tx t.2.2)
theorem toP_ref (ls : List Row) : (toP ls).map (fun t => V.ref t.1) = ls.map fun t => V.ref t.1 := by unfold toP; rw [List.map_map]; rfl
theorem toP_mem {ls : List Row} {C : Sto} {ln : Addr} : ∀ t ∈ toP ls, prO t ∈ Ln ln ls ++ C := fun t ht => by
  obtain ⟨r, hr, rfl⟩ := List.mem_map.mp ht
  exact .tail _ (List.mem_append_left _ (List.mem_map_of_mem (f := rowO) hr))
theorem toP_2 {e : Nat → Nat} {ls : List Row} {l : List Pr} (h : Reps e ls l) : (toP ls).map (·.2) = l.map fun p => (te e p.1, te e p.2) := by
  have : (toP ls).map (·.2) = (ls.map (·.2)).map fun p => (tx p.1, tx p.2) := by unfold toP; rw [List.map_map, List.map_map]; rfl
  rw [this, h, List.map_map]; rfl
theorem toP_has {e : Nat → Nat} (he : Enc e) {ls : List Row} {l : List Pr} (h : Reps e ls l) (a b : List Nat) : ((toP ls).map (·.2)).contains (te e a, te e b) = hasP a b l := by
  rw [toP_2 h, hasP_eq, Bool.eq_iff_iff, List.contains_iff_mem, List.contains_iff_mem, List.mem_map]
  constructor
  · rintro ⟨p, hp, e1⟩
    injection e1 with e1 e2
    rw [← (te_inj he).mp e1, ← (te_inj he).mp e2]
    exact hp
  · exact fun h => ⟨(a, b), h, rfl⟩
theorem Ln_app {ln tp : Addr} {ls : List Row} {a b : List Nat} {C : Sto} : ((tp, O.tuple [.str (tx a), .str (tx b)]) :: (ln, O.list (ls.map (fun t => V.ref t.1) ++ [V.ref tp])) :: (ls.map rowO ++ C)).Perm (Ln ln (ls ++ [(tp, a, b)]) ++ C) := by
  unfold Ln
  rw [List.map_append, List.map_append]
  refine (List.Perm.swap _ _ _).trans (.cons _ ?_)
  show List.Perm ((tp, O.tuple [.str (tx a), .str (tx b)]) :: (ls.map rowO ++ C)) ((ls.map rowO ++ [rowO (tp, a, b)]) ++ C)
  rw [List.append_assoc]
  exact List.perm_middle.symm
section
variable {w : World} {S0 : Shared} {c : Cx} {m : Ms} {σ : Sto} {K : V → Sto → Prop} {mg mb : Str → Option Value} {e : Nat → Nat}
theorem walk_ok (H : Hd S0 mg mb) : ∃ pm cd, FnOk S0 aWalk (mkFd stWalk "_law_walk" pm cd .none .none) (bodyOf stWalk) (locals (scopeOf stWalk)) :=
  H.f_walk.ok (fun _ _ => ⟨rfl, rfl, rfl, rfl, rfl, rfl, rfl⟩) rfl rfl rfl (by decide +kernel) (by decide +kernel) (by decide +kernel)
variable {pm cd : Value} {L : Addr} (FO : FnOk S0 aWalk (mkFd stWalk "_law_walk" pm cd .none .none) (bodyOf stWalk) (locals (scopeOf stWalk)))
noncomputable abbrev walkC (c : Cx) (m : Ms) (L : Addr) {pm cd : Value} (FO : FnOk S0 aWalk (mkFd stWalk "_law_walk" pm cd .none .none) (bodyOf stWalk) (locals (scopeOf stWalk))) : Cx :=
  c.into m (mkFd stWalk "_law_walk" pm cd .none .none) aWalk L (locals (scopeOf stWalk)) FO.kind FO.glob FO.blt FO.nd
noncomputable def walkB (k : Nat) : List Stmt := (bodyOf stWalk).drop k
/-- the pairs to begin with -/
theorem walk_a (he : Enc e) (H : Hd S0 mg mb) {K : Fl → Ms → Sto → Prop} {wo cw : Addr} {ws : List (List Nat)} (hws : okW ws = true) (hl : (walk0 ws).length < 200) (hcw : cw = L + 1) {C : Sto} (hwo : (wo, O.list (teV e ws)) ∈ C)
    (h : ∀ la ls, Reps e ls (walk0 ws) → Ex pw w S0 (walkC c m L FO) (walkB 1) [(0, .ref la)] (Ln la ls ++ ((cw, .cell (some (.ref wo))) :: C)) K) :
    Ex pw w S0 (walkC c m L FO) (walkB 0) [] ((cw, .cell (some (.ref wo))) :: C) K := by
  subst hcw
  unfold okW at hws
  rw [List.all_eq_true] at hws
  have hw2 : ∀ u ∈ ws, (∀ c ∈ u, c < 2) ∧ u.length < 5 := fun u hu => by
    have := hws u hu
    rw [Bool.and_eq_true, List.all_eq_true] at this
    exact ⟨fun c hc => nb_lt (this.1 c hc), nb_lt this.2⟩
  -- line = [(u, v) for u in words for v in words if u < v]
  refine ex_assign_comp2 (cl := [("words", L + 1)]) (names := [".0", "u", "v"]) (nd := by decide +kernel) rfl (by decide +kernel) (by decide +kernel) rfl ?_ rfl
  refine ev_cell (Or.inl rfl) rfl rfl rfl (.head _) ?_ -- words
  refine ⟨_, _, itb_list (xs := teV e ws), mem_st (.tail _ hwo), fun L2 => ?_⟩
  refine ct2_inv (fun u => V.str (te e u)) (fun us ys m0 T0 => ∃ ls acc, ys = ls.map (fun t => V.ref t.1) ∧ m0 = [] ∧ T0 = ls.reverse.map rowO ++ ((L + 1, .cell (some (.ref wo))) :: C) ∧ Reps e ls acc ∧
    acc ++ (us.flatMap fun u => (ws.filter fun v => ltA u v).map fun v => (u, v)) = walk0 ws ∧ ∀ u ∈ us, u ∈ ws) ?_ ?_ ?_ ws [] [] _ ?_
  · rintro us ys _ _ ⟨ls, acc, rfl, rfl, rfl, -⟩
    exact mem_st (List.mem_append_right _ (.tail _ hwo))
  · rintro u us ys _ _ ⟨ls, acc, rfl, rfl, rfl, hr, hacc, hus⟩ p q
    have hu := hw2 u (hus u (.head _))
    refine asg_name (sto_loc (i := 1) rfl rfl ?_)
    refine ev_cell (Or.inl rfl) rfl rfl rfl (List.mem_append_right _ (.head _)) ?_ -- words
    refine ⟨_, _, itb_list (xs := teV e ws), mem_st (List.mem_append_right _ (.tail _ hwo)), mem_st (List.mem_append_right _ (.tail _ hwo)), ?_⟩
    refine ct_inv (fun u => V.str (te e u)) (fun vs ys m0 T0 => ∃ ls acc, ys = ls.map (fun t => V.ref t.1) ∧ m0 = [(1, .str (te e u))] ∧ T0 = ls.reverse.map rowO ++ ((L + 1, .cell (some (.ref wo))) :: C) ∧ Reps e ls acc ∧
      acc ++ ((vs.filter fun v => ltA u v).map fun v => (u, v)) ++ (us.flatMap fun u => (ws.filter fun v => ltA u v).map fun v => (u, v)) = walk0 ws ∧ ∀ v ∈ vs, v ∈ ws) ?_ ?_ ?_ ws _ _ _ ?_
    · rintro vs ys _ _ ⟨ls, acc, rfl, rfl, rfl, -⟩
      exact mem_st (List.mem_append_right _ (.tail _ hwo))
    · rintro v vs ys _ _ ⟨ls, acc, rfl, rfl, rfl, hr, hacc, hvs⟩
      have hv := hw2 v (hvs v (.head _))
      have hlen : ls.length < 200 := by
        have := congrArg List.length hacc
        rw [List.length_append, List.length_append] at this
        rw [hr.len]; omega
      refine ⟨sz (by rw [List.length_map]; omega), fun p2 q2 => ?_⟩
      refine asg_name (sto_loc (i := 2) rfl rfl ?_)
      refine Et.mono (K := fun b σ' => b = ltA u v ∧ σ' = ls.reverse.map rowO ++ ((L + 1, .cell (some (.ref wo))) :: C)) ?_ ?_
      · refine et_cmp ?_ -- u < v
        refine ev_loc (i := 1) rfl rfl rfl rfl ?_ -- u
        refine ev_loc (i := 2) rfl rfl rfl rfl ?_ -- v
        refine cmp_slt ?_
        refine tru_bool ?_
        exact ⟨te_lt he hu.1 hv.1, rfl⟩
      rintro b _ ⟨rfl, rfl⟩
      have hfl : (v :: vs).filter (fun v => ltA u v) = if ltA u v = true then v :: vs.filter (fun v => ltA u v) else vs.filter (fun v => ltA u v) := List.filter_cons
      refine ⟨fun ht => ?_, fun hf => ?_⟩
      · refine ⟨fun _ => ?_, fun e => (nomatch e)⟩
        rw [ht, if_pos rfl] at hfl
        refine ev_tuple ?_
        refine evs_cons ?_
        refine ev_loc (i := 1) rfl rfl rfl rfl ?_ -- u
        refine evs_cons ?_
        refine ev_loc (i := 2) rfl rfl rfl rfl ?_ -- v
        refine evs_nil ?_
        refine ⟨sz (by simp), fun tp => ?_⟩
        refine ⟨[(1, .str (te e u))], _, .of ⟨rfl, trivial⟩ (.refl _), ls ++ [(tp, u.map e, v.map e)], acc ++ [(u, v)], ?_, rfl, ?_, hr.app tp (u, v), ?_, fun v' h' => hvs v' (.tail _ h')⟩
        · rw [List.map_append]; rfl
        · rw [List.reverse_append, List.map_append]; rfl
        · rw [← hacc, hfl, List.map_cons]; simp
      · rw [hf, if_neg (by decide)] at hfl
        rw [hfl] at hacc
        refine ⟨fun e => (nomatch e), fun _ => ⟨[(1, .str (te e u))], _, .of ⟨rfl, trivial⟩ (.refl _), ls, acc, rfl, rfl, rfl, hr, hacc, fun v' h' => hvs v' (.tail _ h')⟩⟩
    · rintro ys _ _ ⟨ls, acc, rfl, rfl, rfl, hr, hacc, -⟩
      refine ⟨[], _, .of trivial (.refl _), ls, acc, rfl, rfl, rfl, hr, ?_, fun u' h' => hus u' (.tail _ h')⟩
      rw [← hacc]; simp
    · refine ⟨ls, acc, rfl, rfl, rfl, hr, ?_, fun _ h => h⟩
      rw [← hacc, List.flatMap_cons, List.append_assoc]
  · rintro ys _ _ ⟨ls, acc, rfl, rfl, rfl, hr, hacc, -⟩
    rw [List.flatMap_nil, List.append_nil] at hacc
    subst hacc
    refine ⟨_, .refl _, fun la q => ?_⟩
    refine sto_loc (i := 0) rfl rfl ?_ -- line
    refine Ex.perm (.cons _ ?_) (h la ls hr)
    exact List.Perm.append_right _ ((List.reverse_perm ls).map rowO)
  · exact ⟨[], [], rfl, rfl, rfl, rfl, rfl, fun _ h => h⟩
end
end Mine
end

section
set_option maxRecDepth 100000
namespace Mine
theorem teV_cons {e : Nat → Nat} {y : V} {xs : List V} {as : List (List Nat)} (h : y :: xs = teV e as) : ∃ a as', as = a :: as' ∧ y = .str (te e a) ∧ xs = teV e as' := by
  cases as with
  | nil => cases h
  | cons a as' =>
    have := List.cons.inj h
    exact ⟨a, as', rfl, this.1, this.2⟩
theorem teV_nil {e : Nat → Nat} {as : List (List Nat)} (h : [] = teV e as) : as = [] := by
  cases as with
  | nil => rfl
  | cons => cases h
theorem side_len {ws : List (List Nat)} (hws : okW ws = true) {l : List Nat} (hl : l.length < 50) : ∀ a ∈ sideA ws l, a.length < 50 := fun a ha => by
  unfold sideA at ha
  cases hq : eqL l [] <;> rw [hq] at ha
  · obtain rfl := List.mem_singleton.mp ha
    exact hl
  · unfold okW at hws
    rw [List.all_eq_true] at hws
    have := hws a ha
    rw [Bool.and_eq_true] at this
    have := nb_lt this.2
    omega
section
variable {w : World} {S0 : Shared} {c : Cx} {m : Ms} {σ : Sto} {mg mb : Str → Option Value} {e : Nat → Nat}
variable {pm cd : Value} {L : Addr} (FO : FnOk S0 aWalk (mkFd stWalk "_law_walk" pm cd .none .none) (bodyOf stWalk) (locals (scopeOf stWalk)))
noncomputable def bodyWhile : Stmt → List Stmt
  | .While _ body .. => body
  | _ => []
noncomputable def bodyIf : Stmt → List Stmt
  | .If _ body .. => body
  | _ => []
/-- the body of the loop over b -/
noncomputable def wkIn : List Stmt := bodyFor ((bodyFor ((bodyIf (((bodyWhile ((walkB 2).headD (.Pass ⟨0, 0, 0, 0⟩))).drop 2).headD (.Pass ⟨0, 0, 0, 0⟩))).headD (.Pass ⟨0, 0, 0, 0⟩))).headD (.Pass ⟨0, 0, 0, 0⟩))
theorem walk_in (he : Enc e) (H : Hd S0 mg mb) {K : Fl → Ms → Sto → Prop} (hu : c.A.units + 10 < cLine) {p1 p2 : Addr × O} {la t : Addr} {ls : List Row} {l : List Pr} {sp : Nat} {a b : List Nat} {k : List Pr → Bool} {C : Sto} (hr : Reps e ls l) (ha : a.length < 50) (hb : b.length < 50) (hll : l.length < 200 ∨ True)
    (hk : stepK a b l k = true)
    (h : ∀ ls' l', Reps e ls' l' → k l' = true → (∀ r ∈ ls, r ∈ ls') → ∀ m', Wk m' (Ln la ls' ++ C) [(0, .ref la), (1, .int (sp : Int)), (2, .ref t), (3, .str (te e a))] (Ln la ls' ++ C) → K .next m' (Ln la ls' ++ C)) :
    Ex pw w S0 (((walkC c m L FO).push p1).push p2) wkIn [(4, .str (te e b)), (0, .ref la), (1, .int (sp : Int)), (2, .ref t), (3, .str (te e a))] (Ln la ls ++ C) K := by
  match a, b, hk with
  | x :: a', y :: b', hk =>
  unfold stepK at hk
  dsimp only at hk
  have fits : fitsSsize 0 = true := fitsSsize_of (N := 9223372036854775808) (by omega) (by omega) (Int.le_refl _)
  -- if a[0] == b[0] and (a[1:], b[1:]) not in line:
  refine ex_if ?_
  refine Et.mono (K := fun v σ' => v = (Nat.beq x y && !hasP a' b' l) ∧ (Ln la ls ++ C).Sublist σ') ?_ ?_
  · refine et_and ?_
    refine et_cmp ?_ -- a[0] == b[0]
    refine ev_sub ?_
    refine ev_loc (i := 3) rfl rfl rfl rfl ?_ -- a
    refine ev_int ?_ -- 0
    refine sub_str (cp := e x) fits (charAt_tx (l := (x :: a').map e) (by simp; omega) rfl) ?_
    refine ev_sub ?_
    refine ev_loc (i := 4) rfl rfl rfl rfl ?_ -- b
    refine ev_int ?_ -- 0
    refine sub_str (cp := e y) fits (charAt_tx (l := (y :: b').map e) (by simp; omega) rfl) ?_
    refine cmp_seq ?_
    rw [show ((⟨#[e x]⟩ : PySem.Str) == ⟨#[e y]⟩) = Nat.beq x y from by
      show (te e [x] == te e [y]) = _
      rw [te_beq he]
      show (Nat.beq x y && true) = _
      rw [Bool.and_true]]
    refine tru_bool ?_
    refine ⟨fun h1 => ?_, fun h1 => ⟨by rw [h1]; rfl, .refl _⟩⟩
    refine et_and ?_
    refine et_cmp ?_ -- (a[1:], b[1:]) not in line
    refine ev_tuple ?_
    refine evs_cons ?_
    refine ev_sslice ?_
    refine ev_loc (i := 3) rfl rfl rfl rfl ?_ -- a
    refine pt_some ?_
    refine ev_int ?_ -- 1
    refine .inl ⟨_, rfl, ?_⟩
    refine pt_none ?_
    refine ⟨_, rfl, sz (by rw [len_te]; omega), ?_⟩
    rw [slice_te, show cut (x :: a') (some 1) .none = a' from cutF (x :: a') 1]
    refine evs_cons ?_
    refine ev_sslice ?_
    refine ev_loc (i := 4) rfl rfl rfl rfl ?_ -- b
    refine pt_some ?_
    refine ev_int ?_ -- 1
    refine .inl ⟨_, rfl, ?_⟩
    refine pt_none ?_
    refine ⟨_, rfl, sz (by rw [len_te]; omega), ?_⟩
    rw [slice_te, show cut (y :: b') (some 1) .none = b' from cutF (y :: b') 1]
    refine evs_nil ?_
    refine ⟨sz (by simp), fun tq => ?_⟩
    refine ev_loc (i := 0) rfl rfl rfl rfl ?_ -- line
    refine cmp_notin_pairs (ps := toP ls) (mem_st (.head _)) (mem_st (by rw [toP_ref]; exact .tail _ (.head _))) (fun r hr => mem_st (.tail _ (toP_mem r hr))) (by show c.A.units + 3 + 1 < cLine; omega) ?_
    rw [toP_has he hr]
    refine tru_bool ?_
    refine ⟨fun h2 => ?_, fun h2 => ⟨by rw [h1, h2]; rfl, .cons _ (.refl _)⟩⟩
    refine et_and_nil ?_
    exact ⟨by rw [h1, h2]; rfl, .cons _ (.refl _)⟩
  rintro v σ1 ⟨rfl, hsub⟩
  refine ⟨fun ht => ?_, fun hf => ?_⟩
  · rw [ht, cond_true, Bool.and_eq_true] at hk
    obtain ⟨hlt, hk⟩ := hk
    have hlt := nb_lt hlt
    refine Ex.wk (m' := [(4, .str (te e (y :: b'))), (0, .ref la), (1, .int (sp : Int)), (2, .ref t), (3, .str (te e (x :: a')))]) (.of ⟨rfl, rfl, rfl, rfl, rfl, trivial⟩ hsub) ?_
    -- line.append((a[1:], b[1:]))
    refine ex_expr ?_
    refine ev_meth ?_
    refine ev_loc (i := 0) rfl rfl rfl rfl ?_ -- line
    refine mth_append (mem_st (.head _)) ?_
    refine ⟨kpr_blt, ?_⟩
    refine evs_cons ?_
    refine ev_tuple ?_
    refine evs_cons ?_
    refine ev_sslice ?_
    refine ev_loc (i := 3) rfl rfl rfl rfl ?_ -- a
    refine pt_some ?_
    refine ev_int ?_ -- 1
    refine .inl ⟨_, rfl, ?_⟩
    refine pt_none ?_
    refine ⟨_, rfl, sz (by rw [len_te]; omega), ?_⟩
    rw [slice_te, show cut (x :: a') (some 1) .none = a' from cutF (x :: a') 1]
    refine evs_cons ?_
    refine ev_sslice ?_
    refine ev_loc (i := 4) rfl rfl rfl rfl ?_ -- b
    refine pt_some ?_
    refine ev_int ?_ -- 1
    refine .inl ⟨_, rfl, ?_⟩
    refine pt_none ?_
    refine ⟨_, rfl, sz (by rw [len_te]; omega), ?_⟩
    rw [slice_te, show cut (y :: b') (some 1) .none = b' from cutF (y :: b') 1]
    refine evs_nil ?_
    refine ⟨sz (by simp), fun tp => ?_⟩
    refine evs_nil ?_
    refine cal_append (.tail .head) (sz (by rw [List.length_map, hr.len]; omega)) ?_
    refine Ex.perm (Ln_app (a := a'.map e) (b := b'.map e)) ?_
    refine ex_nil (ex_nil (h _ (l ++ [(a', b')]) (hr.app tp (a', b')) hk (fun r hr => List.mem_append_left _ hr) _ (.of ⟨rfl, rfl, rfl, rfl, trivial⟩ (.refl _))))
  · rw [hf, cond_false] at hk
    refine Ex.wk (m' := [(0, .ref la), (1, .int (sp : Int)), (2, .ref t), (3, .str (te e (x :: a')))]) (.of ⟨rfl, rfl, rfl, rfl, trivial⟩ hsub) ?_
    exact ex_nil (ex_nil (h _ l hr hk (fun r hr => hr) _ Wk.rfl))
end
end Mine
end

section
set_option maxRecDepth 100000
namespace Mine
section
variable {w : World} {S0 : Shared} {c : Cx} {m : Ms} {σ : Sto} {mg mb : Str → Option Value} {e : Nat → Nat}
variable {pm cd : Value} {L : Addr} (FO : FnOk S0 aWalk (mkFd stWalk "_law_walk" pm cd .none .none) (bodyOf stWalk) (locals (scopeOf stWalk)))
/-- the body of the loop over a -/
noncomputable def wkOut : List Stmt := bodyFor ((bodyIf (((bodyWhile ((walkB 2).headD (.Pass ⟨0, 0, 0, 0⟩))).drop 2).headD (.Pass ⟨0, 0, 0, 0⟩))).headD (.Pass ⟨0, 0, 0, 0⟩))
/-- what the while's body does behind the first two lines -/
noncomputable def wkBody : List Stmt := (bodyWhile ((walkB 2).headD (.Pass ⟨0, 0, 0, 0⟩))).drop 2
theorem side_eq (ws : List (List Nat)) (l : List Nat) : sideA ws l = if eqL l [] = true then ws else [l] := by
  unfold sideA; cases eqL l [] <;> rfl
theorem walk_out (he : Enc e) (H : Hd S0 mg mb) {K : Fl → Ms → Sto → Prop} (hu : c.A.units + 10 < cLine) {p1 : Addr × O} {la t cw wo : Addr} {ls : List Row} {l : List Pr} {sp : Nat} {a q1 q2 : List Nat} {ws : List (List Nat)} {k : List Pr → Bool} {C : Sto} (hr : Reps e ls l) (ha : a.length < 50) (hq2 : q2.length < 50) (hws : okW ws = true) (hcw : cw = L + 1)
    (hcC : (cw, O.cell (some (.ref wo))) ∈ C) (hwo : (wo, O.list (teV e ws)) ∈ C) (ht : (t, q1.map e, q2.map e) ∈ ls)
    (hk : forK (fun b l c => stepK a b l c) (sideA ws q2) l k = true)
    (h : ∀ ls' l', Reps e ls' l' → k l' = true → (∀ r ∈ ls, r ∈ ls') → ∀ m' σ', Wk m' σ' [(0, .ref la), (1, .int (sp : Int)), (2, .ref t)] (Ln la ls' ++ C) → K .next m' σ') :
    Ex pw w S0 ((walkC c m L FO).push p1) wkOut [(3, .str (te e a)), (0, .ref la), (1, .int (sp : Int)), (2, .ref t)] (Ln la ls ++ C) K := by
  subst hcw
  have htm : ∀ {ls' : List Row}, (∀ r ∈ ls, r ∈ ls') → (t, O.tuple [.str (te e q1), .str (te e q2)]) ∈ Ln la ls' ++ C := fun hs =>
    .tail _ (List.mem_append_left _ (List.mem_map_of_mem (f := rowO) (hs _ ht)))
  -- for b in [ahead[1]] if ahead[1] != '' else words:
  refine ex_for ?_
  refine Ev.mono (K := fun v σ' => ∃ q pre, v = .ref q ∧ σ' = pre ++ (Ln la ls ++ C) ∧ (q, O.list (teV e (sideA ws q2))) ∈ pre ++ C) ?_ ?_
  · refine ev_if ?_
    refine et_cmp ?_ -- ahead[1] != ''
    refine ev_sub ?_
    refine ev_loc (i := 2) rfl rfl rfl rfl ?_ -- ahead
    refine ev_int ?_ -- 1
    refine sub_tuple (i := 1) (xs := [.str (te e q1), .str (te e q2)]) (htm fun _ h => h) (by decide) rfl ?_
    refine ev_str ?_ -- ''
    refine cmp_sne ?_
    rw [show (te e q2 != (PySem.Str.ofString "")) = !eqL q2 [] by rw [← te_nil (e := e)]; unfold bne; rw [te_beq he]]
    refine tru_bool ?_
    refine ⟨fun h1 => ?_, fun h1 => ?_⟩
    · refine ev_list ?_
      refine evs_cons ?_
      refine ev_sub ?_
      refine ev_loc (i := 2) rfl rfl rfl rfl ?_ -- ahead
      refine ev_int ?_ -- 1
      refine sub_tuple (i := 1) (xs := [.str (te e q1), .str (te e q2)]) (htm fun _ h => h) (by decide) rfl ?_
      refine evs_nil ?_
      refine ⟨sz (by simp), fun q => ?_⟩
      refine ⟨q, [(q, .list [.str (te e q2)])], rfl, rfl, ?_⟩
      rw [side_eq, if_neg (by simpa using h1)]
      exact .head _
    · refine ev_cell (Or.inl rfl) rfl rfl rfl (List.mem_append_right _ hcC) ?_ -- words
      refine ⟨wo, [], rfl, rfl, ?_⟩
      rw [side_eq, if_pos (by simpa using h1)]
      exact hwo
  rintro _ _ ⟨q, pre, rfl, rfl, hq⟩
  refine ⟨_, _, itb_list (xs := teV e (sideA ws q2)), ?_⟩
  have hC' : ∀ {p}, p ∈ C → p ∈ pre ++ C := fun h => List.mem_append_right _ h
  have hpm : (pre ++ (Ln la ls ++ C)).Perm (Ln la ls ++ (pre ++ C)) := by
    rw [← List.append_assoc, ← List.append_assoc]; exact List.Perm.append_right _ List.perm_append_comm
  refine Turns.perm (mem_st (hpm.mem_iff.mpr (List.mem_append_right _ hq))) hpm ?_
  have hsl := side_len hws hq2
  refine turns_gen (fun xs m0 T0 => ∃ (bs : List (List Nat)) (ls' : List Row) (l' : List Pr), xs = teV e bs ∧ (∀ b ∈ bs, b.length < 50) ∧ Reps e ls' l' ∧ (∀ r ∈ ls, r ∈ ls') ∧ forK (fun b l c => stepK a b l c) bs l' k = true ∧
      Wk m0 T0 [(0, .ref la), (1, .int (sp : Int)), (2, .ref t), (3, .str (te e a))] (Ln la ls' ++ (pre ++ C))) ?_ ?_ ?_ _ _ _ ?_
  · rintro xs m0 T0 ⟨bs, ls', l', -, -, -, -, -, hw⟩
    exact mem_st (hw.st.subset (List.mem_append_right _ hq))
  · rintro y xs m0 T0 ⟨bs, ls', l', hx, hb, hr', hs, hk', hw⟩ p2
    obtain ⟨b, bs', rfl, rfl, rfl⟩ := teV_cons hx
    refine asg_name (sto_loc (i := 4) rfl rfl ?_)
    refine Ex.wk (wk_cons hw 4 _) ?_
    refine walk_in FO he H hu (k := fun l => forK (fun b l c => stepK a b l c) bs' l k) hr' ha (hb b (.head _)) (.inr trivial) hk' fun ls2 l2 hr2 hk2 hs2 m' hw' => ?_
    exact ⟨_, _, Wk.rfl, bs', ls2, l2, rfl, fun b' h' => hb b' (.tail _ h'), hr2, fun r h => hs2 r (hs r h), hk2, hw'⟩
  · rintro m0 T0 ⟨bs, ls', l', hx, hb, hr', hs, hk', hw⟩
    obtain rfl := teV_nil hx
    refine ex_nil (h ls' l' hr' hk' hs _ _ ⟨fun i v hv => hw.ms i v ?_, ?_⟩)
    · exact SubMs.of (m' := [(0, .ref la), (1, .int (sp : Int)), (2, .ref t)]) (m := [(0, .ref la), (1, .int (sp : Int)), (2, .ref t), (3, .str (te e a))]) ⟨rfl, rfl, rfl, trivial⟩ i v hv
    · exact (List.Sublist.append_left (List.sublist_append_right _ _) _).trans hw.st
  · exact ⟨_, ls, l, rfl, hsl, hr, fun _ h => h, hk, .of ⟨rfl, rfl, rfl, rfl, trivial⟩ (.refl _)⟩
/-- a turn of the while, behind its first two lines -/
theorem walk_turn (he : Enc e) (H : Hd S0 mg mb) {K : Fl → Ms → Sto → Prop} (hu : c.A.units + 10 < cLine) {la t cw wo : Addr} {ls : List Row} {l : List Pr} {sp : Nat} {q1 q2 : List Nat} {ws : List (List Nat)} {k : List Pr → Bool} {C : Sto} (hr : Reps e ls l) (hq1 : q1.length < 50) (hq2 : q2.length < 50) (hws : okW ws = true) (hcw : cw = L + 1)
    (hcC : (cw, O.cell (some (.ref wo))) ∈ C) (hwo : (wo, O.list (teV e ws)) ∈ C) (ht : (t, q1.map e, q2.map e) ∈ ls)
    (hk : (bif eqL q1 [] && eqL q2 [] then k l else forK (fun a l c => forK (fun b l c => stepK a b l c) (sideA ws q2) l c) (sideA ws q1) l k) = true)
    (h : ∀ ls' l', Reps e ls' l' → k l' = true → ∀ m' σ', Wk m' σ' [(0, .ref la), (1, .int (sp : Int))] (Ln la ls' ++ C) → K .next m' σ') :
    Ex pw w S0 (walkC c m L FO) wkBody [(2, .ref t), (1, .int (sp : Int)), (0, .ref la)] (Ln la ls ++ C) K := by
  have hcw' := hcw
  subst hcw
  have htm : ∀ {ls' : List Row}, (∀ r ∈ ls, r ∈ ls') → (t, O.tuple [.str (te e q1), .str (te e q2)]) ∈ Ln la ls' ++ C := fun hs =>
    .tail _ (List.mem_append_left _ (List.mem_map_of_mem (f := rowO) (hs _ ht)))
  -- if ahead != ('', ''):
  refine ex_if ?_
  refine et_cmp ?_
  refine ev_loc (i := 2) rfl rfl rfl rfl ?_ -- ahead
  refine ev_tuple ?_
  refine evs_cons ?_
  refine ev_str ?_ -- ''
  refine evs_cons ?_
  refine ev_str ?_ -- ''
  rw [← te_nil (e := e)]
  refine evs_nil ?_
  refine ⟨sz (by simp), fun tq => ?_⟩
  refine cmp_tne (u := te e q1) (v := te e q2) (u' := te e []) (v' := te e []) (mem_st (.tail _ (htm fun _ h => h))) (mem_st (.head _)) (by show c.A.units + 3 < cLine; omega) ?_
  rw [te_beq he, te_beq he]
  refine tru_bool ?_
  refine ⟨fun h1 => ?_, fun h1 => ?_⟩
  · rw [show (eqL q1 [] && eqL q2 []) = false from (by cases hq : (eqL q1 [] && eqL q2 []) with | false => rfl | true => (rw [hq] at h1; exact absurd h1 (by decide))), cond_false] at hk
    refine Ex.wk (m' := [(0, .ref la), (1, .int (sp : Int)), (2, .ref t)]) (σ' := Ln la ls ++ C) (.of ⟨rfl, rfl, rfl, trivial⟩ (.cons _ (.refl _))) ?_
    -- for a in [ahead[0]] if ahead[0] != '' else words:
    refine ex_for ?_
    refine Ev.mono (K := fun v σ' => ∃ q pre, v = .ref q ∧ σ' = pre ++ (Ln la ls ++ C) ∧ (q, O.list (teV e (sideA ws q1))) ∈ pre ++ C) ?_ ?_
    · refine ev_if ?_
      refine et_cmp ?_ -- ahead[0] != ''
      refine ev_sub ?_
      refine ev_loc (i := 2) rfl rfl rfl rfl ?_ -- ahead
      refine ev_int ?_ -- 0
      refine sub_tuple (i := 0) (xs := [.str (te e q1), .str (te e q2)]) (htm fun _ h => h) (by decide) rfl ?_
      refine ev_str ?_ -- ''
      refine cmp_sne ?_
      rw [show (te e q1 != te e []) = !eqL q1 [] by unfold bne; rw [te_beq he]]
      refine tru_bool ?_
      refine ⟨fun h1 => ?_, fun h1 => ?_⟩
      · refine ev_list ?_
        refine evs_cons ?_
        refine ev_sub ?_
        refine ev_loc (i := 2) rfl rfl rfl rfl ?_ -- ahead
        refine ev_int ?_ -- 0
        refine sub_tuple (i := 0) (xs := [.str (te e q1), .str (te e q2)]) (htm fun _ h => h) (by decide) rfl ?_
        refine evs_nil ?_
        refine ⟨sz (by simp), fun q => ?_⟩
        refine ⟨q, [(q, .list [.str (te e q1)])], rfl, rfl, ?_⟩
        rw [side_eq, if_neg (by simpa using h1)]
        exact .head _
      · refine ev_cell (Or.inl rfl) rfl rfl rfl (List.mem_append_right _ hcC) ?_ -- words
        refine ⟨wo, [], rfl, rfl, ?_⟩
        rw [side_eq, if_pos (by simpa using h1)]
        exact hwo
    rintro _ _ ⟨q, pre, rfl, rfl, hq⟩
    refine ⟨_, _, itb_list (xs := teV e (sideA ws q1)), ?_⟩
    have hpm : (pre ++ (Ln la ls ++ C)).Perm (Ln la ls ++ (pre ++ C)) := by
      rw [← List.append_assoc, ← List.append_assoc]; exact List.Perm.append_right _ List.perm_append_comm
    refine Turns.perm (mem_st (hpm.mem_iff.mpr (List.mem_append_right _ hq))) hpm ?_
    have hsl := side_len hws hq1
    refine turns_gen (fun xs m0 T0 => ∃ (as : List (List Nat)) (ls' : List Row) (l' : List Pr), xs = teV e as ∧ (∀ a ∈ as, a.length < 50) ∧ Reps e ls' l' ∧ (∀ r ∈ ls, r ∈ ls') ∧ forK (fun a l c => forK (fun b l c => stepK a b l c) (sideA ws q2) l c) as l' k = true ∧
        Wk m0 T0 [(0, .ref la), (1, .int (sp : Int)), (2, .ref t)] (Ln la ls' ++ (pre ++ C))) ?_ ?_ ?_ _ _ _ ?_
    · rintro xs m0 T0 ⟨as, ls', l', -, -, -, -, -, hw⟩
      exact mem_st (hw.st.subset (List.mem_append_right _ hq))
    · rintro y xs m0 T0 ⟨as, ls', l', hx, ha, hr', hs, hk', hw⟩ p2
      obtain ⟨a, as', rfl, rfl, rfl⟩ := teV_cons hx
      refine asg_name (sto_loc (i := 3) rfl rfl ?_)
      refine Ex.wk (wk_cons hw 3 _) ?_
      refine walk_out FO he H hu (k := fun l => forK (fun a l c => forK (fun b l c => stepK a b l c) (sideA ws q2) l c) as' l k) hr' (ha a (.head _)) hq2 hws hcw' (List.mem_append_right _ hcC) (List.mem_append_right _ hwo) (hs _ ht) hk' fun ls2 l2 hr2 hk2 hs2 m' σ' hw' => ?_
      exact ⟨_, _, Wk.rfl, as', ls2, l2, rfl, fun a' h' => ha a' (.tail _ h'), hr2, fun r h => hs2 r (hs r h), hk2, hw'⟩
    · rintro m0 T0 ⟨as, ls', l', hx, ha, hr', hs, hk', hw⟩
      obtain rfl := teV_nil hx
      refine ex_nil (ex_nil (h ls' l' hr' hk' _ _ ⟨fun i v hv => hw.ms i v ?_, ?_⟩))
      · exact SubMs.of (m' := [(0, .ref la), (1, .int (sp : Int))]) (m := [(0, .ref la), (1, .int (sp : Int)), (2, .ref t)]) ⟨rfl, rfl, trivial⟩ i v hv
      · exact (List.Sublist.append_left (List.sublist_append_right _ _) _).trans hw.st
    · exact ⟨_, ls, l, rfl, hsl, hr, fun _ h => h, hk, .of ⟨rfl, rfl, rfl, trivial⟩ (.refl _)⟩
  · rw [show (eqL q1 [] && eqL q2 []) = true from (by cases hq : (eqL q1 [] && eqL q2 []) with | true => rfl | false => (rw [hq] at h1; exact absurd h1 (by decide))), cond_true] at hk
    exact ex_nil (ex_nil (h ls l hr hk _ _ (.of ⟨rfl, rfl, trivial⟩ (.cons _ (.refl _)))))
end
section
variable {w : World} {S0 : Shared} {c : Cx} {m : Ms} {σ : Sto} {K : V → Sto → Prop} {mg mb : Str → Option Value} {e : Nat → Nat}
theorem walk (he : Enc e) (H : Hd S0 mg mb) (hroom : c.A.depth < recursionLimit) (hu : c.A.units + 10 < cLine) {wo : Addr} {ws : List (List Nat)} {k : List Pr → Bool} {n : Nat} (hws : okW ws = true) (hwo : (wo, O.list (teV e ws)) ∈ σ) (hk : walkK ws (n + 1) 0 (walk0 ws) k = true)
    (h : ∀ la ls l, Reps e ls l → k l = true → K (.ref la) (Ln la ls ++ σ)) : Cal pw w S0 c m σ (.ref aWalk) [.ref wo] [] K := by
  obtain ⟨pm, cd, FO⟩ := walk_ok H
  have hl0 : (walk0 ws).length < 200 := by
    unfold walkK at hk
    rw [Bool.and_eq_true] at hk
    exact nb_lt hk.1
  refine cal_def H.B FO hroom (binds_pos (ns := ["words"]) rfl (fun vs hv => ?_) ⟨by rfl, fun L => ?_⟩)
  · obtain ⟨v, rfl⟩ : ∃ v, vs = [v] := List.length_eq_one_iff.mp hv
    rfl
  show Ex pw w S0 (walkC c m L FO) (walkB 0) [] ((L + 1, .cell (some (.ref wo))) :: σ) _
  refine walk_a FO he H hws hl0 rfl hwo fun la ls hr => ?_
  -- spot = 0
  refine ex_assign ?_
  refine ev_int ?_ -- 0
  refine sto_loc (i := 1) rfl rfl ?_ -- spot
  -- while spot < len(line):
  refine ex_whl (fun f m0 τ0 => ∃ (ls : List Row) (l : List Pr) (sp : Nat), m0 = [(0, .ref la), (1, .int (sp : Int))] ∧ τ0 = Ln la ls ++ ((L + 1, .cell (some (.ref wo))) :: σ) ∧ Reps e ls l ∧ walkK ws f sp l k = true) (n + 1)
    (m0 := [(0, .ref la), (1, .int ((0 : Nat) : Int))]) (σ0 := Ln la ls ++ ((L + 1, .cell (some (.ref wo))) :: σ)) (.of ⟨rfl, rfl, trivial⟩ (.refl _)) ⟨ls, walk0 ws, 0, rfl, rfl, hr, hk⟩ ?_
  rintro f _ _ ⟨ls, l, sp, rfl, rfl, hr, hk⟩
  cases f with
  | zero => cases hk
  | succ f =>
  unfold walkK at hk
  rw [Bool.and_eq_true] at hk
  obtain ⟨hll, hk⟩ := hk
  have hll := nb_lt hll
  have hlen := hr.len
  refine et_cmp ?_ -- spot < len(line)
  refine ev_loc (i := 1) rfl rfl rfl rfl ?_ -- spot
  refine ev_call ?_ -- len(line)
  refine ev_blt H.B rfl rfl (by decide) H.no_len boot_len ?_
  refine ⟨kpr_blt, ?_⟩
  refine evs_cons ?_
  refine ev_loc (i := 0) rfl rfl rfl rfl ?_ -- line
  refine evs_nil ?_
  refine cal_len_list (xs := ls.map fun t => V.ref t.1) (mem_st (.head _)) (by rw [List.length_map]; omega) ?_
  rw [List.length_map, hlen]
  refine cmp_lt ?_
  refine tru_bool ?_
  refine ⟨fun h1 => ?_, fun h1 => ?_⟩
  · have h1 : sp < l.length := by have := of_decide_eq_true h1; omega
    obtain ⟨⟨q1, q2⟩, hp⟩ : ∃ p, l[sp]? = some p := ⟨_, List.getElem?_eq_getElem h1⟩
    rw [hp] at hk
    dsimp only at hk
    rw [Bool.and_eq_true, Bool.and_eq_true] at hk
    obtain ⟨hq1, hq2, hk⟩ := hk
    have hq1 := nb_lt hq1
    have hq2 := nb_lt hq2
    obtain ⟨t, ht⟩ := hr.at hp
    -- ahead = line[spot]
    refine ex_assign ?_
    refine ev_sub ?_
    refine ev_loc (i := 0) rfl rfl rfl rfl ?_ -- line
    refine ev_loc (i := 1) rfl rfl rfl rfl ?_ -- spot
    refine sub_list (xs := ls.map fun t => V.ref t.1) (x := .ref t) (.head _) (by rw [List.length_map]; omega) (by omega) (by rw [List.length_map]; omega) (by rw [ix_nat, List.getElem?_map, ht]; rfl) ?_
    refine sto_loc (i := 2) rfl rfl ?_ -- ahead
    -- spot = spot + 1
    refine ex_assign ?_
    refine ev_bin ?_
    refine ev_loc (i := 1) rfl rfl rfl rfl ?_ -- spot
    refine ev_int ?_ -- 1
    refine bin_add ?_ -- spot + 1
    rw [show ((sp : Nat) : Int) + 1 = ((sp + 1 : Nat) : Int) by omega]
    refine sto_loc (i := 1) rfl rfl ?_ -- spot
    refine Ex.wk (m' := [(2, .ref t), (1, .int ((sp + 1 : Nat) : Int)), (0, .ref la)]) (.of ⟨rfl, rfl, rfl, trivial⟩ (.refl _)) ?_
    refine walk_turn FO he H hu (k := fun l => walkK ws f (sp + 1) l k) hr hq1 hq2 hws rfl (.head _) (.tail _ hwo) (List.mem_of_getElem? ht) hk fun ls' l' hr' hk' m' σ' hw' => ?_
    exact ⟨f, _, _, by omega, hw', ls', l', sp + 1, rfl, rfl, hr', hk'⟩
  · have h1 : ¬ sp < l.length := by have := of_decide_eq_false h1; omega
    rw [List.getElem?_eq_none (by omega)] at hk
    -- return line
    refine ex_ret ?_
    refine ev_loc (i := 0) rfl rfl rfl rfl ?_ -- line
    exact ret_sub (m' := []) (.append_left (.cons _ (.refl _)) _) (h la ls l hr hk)
end
end Mine
end

section
set_option maxRecDepth 100000
namespace Mine
noncomputable def nA (l : List Nat) : List V := l.map fun n : Nat => V.int (n : Int)
theorem nA_take (l : List Nat) (k : Nat) : (nA l).take k = nA (l.take k) := by simp [nA, List.map_take]
theorem nA_drop (l : List Nat) (k : Nat) : (nA l).drop k = nA (l.drop k) := by simp [nA, List.map_drop]
theorem nA_app (a b : List Nat) : nA a ++ nA b = nA (a ++ b) := by simp [nA]
theorem nA_len (l : List Nat) : (nA l).length = l.length := by simp [nA]
theorem nA_get (l : List Nat) (i : Nat) (n : Nat) (h : l[i]? = some n) : (nA l)[i]? = some (.int (n : Int)) := by simp [nA, h]
theorem nA_iV (D : List Nat) : nA D = (D.map fun n : Nat => (n : Int)).map V.int := by unfold nA; rw [List.map_map]; rfl
theorem nA_cons {y : V} {xs : List V} {as : List Nat} (h : y :: xs = nA as) : ∃ a as', as = a :: as' ∧ y = .int (a : Int) ∧ xs = nA as' := by
  cases as with
  | nil => cases h
  | cons a as' =>
    have := List.cons.inj h
    exact ⟨a, as', rfl, this.1, this.2⟩
theorem nA_nil {as : List Nat} (h : [] = nA as) : as = [] := by
  cases as with
  | nil => rfl
  | cons => cases h
noncomputable def start01 : List Nat := [0, 45, 4]
noncomputable def draws01 (few : List Int) : List Nat := (few.take 3).map (fun x => (x % 420000).toNat) ++ start01.drop (few.take 3).length
theorem draws_len (few : List Int) : (draws01 few).length = 3 := by
  have : (few.take 3).length ≤ 3 := by simp; omega
  unfold draws01
  rw [List.length_append, List.length_map, List.length_drop]
  show _ + (3 - _) = 3
  omega
theorem draws_lt (few : List Int) : ∀ n ∈ draws01 few, n < 420000 := fun n hn => by
  rcases List.mem_append.mp hn with h | h
  · obtain ⟨x, _, rfl⟩ := List.mem_map.mp h
    have := Int.emod_lt_of_pos x (show (0 : Int) < 420000 by decide)
    omega
  · have : n ∈ start01 := List.mem_of_mem_drop h
    have key : ∀ n ∈ start01, n < 420000 := by decide
    exact key n this
section
variable {w : World} {S0 : Shared} {Kf : Frag} {c : Cx} {m : Ms} {σ : Sto} {K : Fl → Ms → Sto → Prop} {mg mb : Str → Option Value}
/-- a slice of a list of the caller's -/
theorem ev_lslice_s {KV : V → Sto → Prop} {value : Expr} {lower upper : Option Expr} {p pos : Pos}
    (h : Ev pw w S0 c value m σ fun x σ1 => Pt pw w S0 c m σ1 lower fun lo σ2 => Pt pw w S0 c m σ2 upper fun hi σ3 =>
      ∃ a xs vs, x = .ref a ∧ S0.heap.IsList a (List.toArray vs) ∧ RzL xs vs ∧ xs.length ≤ sizeLine ∧ ∀ d, KV (.ref d) ((d, .list (cut xs lo hi)) :: σ3)) : Ev pw w S0 c (.Subscript value (.Slice lower upper .none p) pos) m σ KV :=
  Op.of fun s R Q E k => by
    rw [eval_Subscript]
    refine wpAny_bind (Op.get h s R _ E fun v x σ1 s1 R1 hx h1 => wpAny_bind (wpAny_holding (wpAny_Slice (h1.get s1 R1 _ E fun vl lo σ2 s2 R2 hlo h2 => h2.get s2 R2 _ E fun vu hi σ3 s3 R3 hhi h3 => wpAny_pure (wpAny_bind (wpAny_standAt ?_))))))
    obtain ⟨a, xs, vs, rfl, ⟨ol, g1, g2⟩, hz, hsz, h4⟩ := h3
    obtain rfl : v = .ref a := hx
    have hl : s3.heap.IsList a vs.toArray := ⟨ol, R3.keep _ _ g1, g2⟩
    show wpAny _ _ (subscriptTail value (.Slice lower upper .none p) (.ref a) (.ref s3.heap.objs.size)) _ _ _
    refine tail_any (hl.push _).typeIs slot_list_getitem.lookup (wpAny_getItem_list_slice (hl.push _) (Heap.IsSliceOf.new ..) hlo hhi .none (by simp) ?_ ?_) (by with_unfolding_all rfl)
    · rw [slice_pick]
      have G := (R3.grow (h' := s3.heap.push { cls := .type "slice", data := .fields #[vl, vu, .none] }) (fun b o e => Heap.get?_push_of_some _ e) s3.toks)
      exact k _ (.ref _) _ _ (Rel.new G (x := .list (cut xs lo hi)) ⟨_, 0, rfl, hz.cut lo hi⟩ rfl s3.toks) rfl (h4 _)
    · rw [List.size_toArray, ← hz.length]; exact hsz
variable {pm cd : Value} {L : Addr}
noncomputable abbrev lawC (c : Cx) (m : Ms) (L : Addr) {pm cd : Value} (FO : FnOk S0 aLaw (mkFd stLaw "law" pm cd .none .none) (bodyOf stLaw) (locals (scopeOf stLaw))) : Cx :=
  { c.into m (mkFd stLaw "law" pm cd .none .none) aLaw L (locals (scopeOf stLaw)) FO.kind FO.glob FO.blt FO.nd with F := [] }
noncomputable def lawB (k : Nat) : List Stmt := (bodyOf stLaw).drop k
/-- the cells: total, pair, octets, words, marks -/
noncomputable def c5 (L : Addr) (tot par oct wor mar : Option V) : Sto :=
  [(L + 1 + 1 + 1 + 1 + 1, .cell mar), (L + 1 + 1 + 1 + 1, .cell wor), (L + 1 + 1 + 1, .cell oct), (L + 1 + 1, .cell par), (L + 1, .cell tot)]
variable (FO : FnOk S0 aLaw (mkFd stLaw "law" pm cd .none .none) (bodyOf stLaw) (locals (scopeOf stLaw)))
theorem lawA (H : Hc S0 Kf mg mb) {sa : Addr} {ns : List Int} {vs : List Value} (hsa : S0.heap.IsList sa vs.toArray) (hz : RzL (ns.map V.int) vs) (hns : ns.length ≤ 63)
    (h : ∀ pa da, Ex pw w S0 (lawC c m L FO) (lawB 4) [(2, .ref da)] ((da, .list (nA (draws01 (ns.take 63)))) :: (pa, .list (teV (enc (ns.take 63).sum) [[0], [1]])) :: (c5 L (some (.int (ns.take 63).sum)) (some (.ref pa)) .none .none .none ++ σ)) K) :
    Ex pw w S0 (lawC c m L FO) (lawB 0) [(0, .ref sa)] (c5 L .none .none .none .none .none ++ σ) K := by
  -- few = script[:63]
  refine ex_assign ?_
  refine ev_lslice_s ?_
  refine ev_loc (i := 0) rfl rfl rfl rfl ?_ -- script
  refine pt_none ?_
  refine pt_some ?_
  refine ev_int ?_ -- 63
  refine .inl ⟨_, rfl, ?_⟩
  refine ⟨_, _, _, rfl, hsa, hz, sz (by simp; omega), fun fa => ?_⟩
  rw [show cut (ns.map V.int) .none (some 63) = (ns.take 63).map V.int by rw [show (63 : Int) = ((63 : Nat) : Int) from rfl, cutT, List.map_take]]
  generalize hF : ns.take 63 = F at h ⊢
  have hFl : F.length ≤ 63 := by rw [← hF]; simp; omega
  refine sto_loc (i := 1) rfl rfl ?_ -- few
  -- total = sum(few)
  refine ex_assign ?_
  refine ev_call ?_ -- sum(few)
  refine ev_blt H.H.B rfl rfl (by decide) H.H.no_sum boot_sum ?_
  refine ⟨kpr_blt, ?_⟩
  refine evs_cons ?_
  refine ev_loc (i := 1) rfl rfl rfl rfl ?_ -- few
  refine evs_nil ?_
  refine cal_sum (mem_st (.head _)) ?_
  generalize F.sum = T at h ⊢
  refine sto_cell rfl rfl (.tail (.tail (.tail (.tail (.tail .head))))) ?_ -- total
  have ht0 : 0 ≤ T % 25 := Int.emod_nonneg _ (by decide)
  have ht1 : T % 25 < 25 := Int.emod_lt_of_pos _ (by decide)
  have hfm : T.fmod 25 = T % 25 := Int.fmod_eq_emod_of_nonneg _ (by decide)
  -- pair = [chr(97 + total % 25), chr(98 + total % 25)]
  refine ex_assign ?_
  refine ev_list ?_
  iterate 2 (
    refine evs_cons ?_
    refine ev_call ?_ -- chr(97 + total % 25)
    refine ev_blt H.H.B rfl rfl (by decide) H.H.no_chr boot_chr ?_
    refine ⟨kpr_blt, ?_⟩
    refine evs_cons ?_
    refine ev_bin ?_
    refine ev_int ?_ -- 97
    refine ev_bin ?_
    refine ev_cell (Or.inl rfl) rfl rfl rfl (List.mem_of_getElem? (i := 5) rfl) ?_ -- total
    refine ev_int ?_ -- 25
    refine bin_mod (by decide) ?_
    rw [hfm]
    refine bin_add ?_ -- 97 + total % 25
    refine evs_nil ?_
    refine cal_chr (by omega) (by omega) ?_)
  refine evs_nil ?_
  refine ⟨sz (by simp), fun pa => ?_⟩
  rw [show [V.str (one (97 + T % 25).toNat), V.str (one (98 + T % 25).toNat)] = teV (enc T) [[0], [1]] by
    rw [Int.toNat_add (by decide) ht0, Int.toNat_add (by decide) ht0]; rfl]
  refine sto_cell rfl rfl (.tail (.tail (.tail (.tail (.tail .head))))) ?_ -- pair
  -- draws = [x % 420000 for x in few[:3]] + [0, 45, 4][len(few[:3]):]
  refine ex_assign ?_
  refine ev_bin ?_
  refine ev_comp (cl := []) (names := [".0", "x"]) (nd := by decide +kernel) rfl (by decide +kernel) (by decide +kernel) rfl ?_
  refine ev_lslice ?_
  refine ev_loc (i := 1) rfl rfl rfl rfl ?_ -- few
  refine pt_none ?_
  refine pt_some ?_
  refine ev_int ?_ -- 3
  refine .inl ⟨_, rfl, ?_⟩
  refine ⟨fa, F.map V.int, rfl, List.mem_of_getElem? (i := 1) rfl, sz (by simp; omega), fun f1 => ?_⟩
  rw [show cut (F.map V.int) .none (some 3) = (F.take 3).map V.int by rw [show (3 : Int) = ((3 : Nat) : Int) from rfl, cutT, List.map_take]]
  refine ⟨_, _, itb_list, mem_st (.head _), fun L2 => ?_⟩
  refine ct_mapA V.int (fun x => V.int ((x % 420000).toNat : Int)) (mem_st (.head _)) (sz (by simp; omega)) (fun x hx p q => ?_) ?_
  · refine asg_name (sto_loc (i := 1) rfl rfl ?_)
    refine ev_bin ?_
    refine ev_loc (i := 1) rfl rfl rfl rfl ?_ -- x
    refine ev_int ?_ -- 420000
    refine bin_mod (by decide) ?_
    refine ⟨?_, .refl _⟩
    rw [Int.fmod_eq_emod_of_nonneg _ (by decide), Int.toNat_of_nonneg (Int.emod_nonneg _ (by decide))]
  refine ⟨_, .refl _, fun d1 => ?_⟩
  rw [show ((F.take 3).map fun x => V.int ((x % 420000).toNat : Int)) = nA ((F.take 3).map fun x => (x % 420000).toNat) by unfold nA; rw [List.map_map]; rfl]
  refine ev_lslice ?_
  refine ev_list ?_
  refine evs_cons ?_
  refine ev_int ?_ -- 0
  refine evs_cons ?_
  refine ev_int ?_ -- 45
  refine evs_cons ?_
  refine ev_int ?_ -- 4
  refine evs_nil ?_
  refine ⟨sz (by simp), fun st => ?_⟩
  refine pt_some ?_
  refine ev_call ?_ -- len(few[:3])
  refine ev_blt H.H.B rfl rfl (by decide) H.H.no_len boot_len ?_
  refine ⟨kpr_blt, ?_⟩
  refine evs_cons ?_
  refine ev_lslice ?_
  refine ev_loc (i := 1) rfl rfl rfl rfl ?_ -- few
  refine pt_none ?_
  refine pt_some ?_
  refine ev_int ?_ -- 3
  refine .inl ⟨_, rfl, ?_⟩
  refine ⟨fa, F.map V.int, rfl, List.mem_of_getElem? (i := 4) rfl, sz (by simp; omega), fun f2 => ?_⟩
  rw [show cut (F.map V.int) .none (some 3) = (F.take 3).map V.int by rw [show (3 : Int) = ((3 : Nat) : Int) from rfl, cutT, List.map_take]]
  refine evs_nil ?_
  refine cal_len_list (mem_st (.head _)) (by simp; omega) ?_
  refine .inl ⟨_, rfl, ?_⟩
  refine pt_none ?_
  refine ⟨st, nA start01, rfl, .tail _ (.head _), sz (by simp [nA, start01]), fun d2 => ?_⟩
  rw [cutF, List.length_map, nA_drop]
  refine bin_lcat (.tail _ (.tail _ (.tail _ (.head _)))) (.head _) (sz (by simp [nA, start01]; omega)) fun da => ?_
  rw [nA_app, show (F.take 3).map (fun x => (x % 420000).toNat) ++ start01.drop (F.take 3).length = draws01 F from rfl]
  refine sto_loc (i := 2) rfl rfl ?_ -- draws
  refine Ex.wk (m' := [(2, .ref da)]) (.of ⟨rfl, trivial⟩ ?_) (h pa da)
  refine .cons_cons _ (.cons _ (.cons _ (.cons _ (.cons _ (.cons _ (.cons_cons _ ?_))))))
  repeat (first | exact .refl _ | refine .cons_cons _ ?_ | refine .cons _ ?_)
end
end Mine
end

section
set_option maxRecDepth 100000
namespace Mine
noncomputable def kindF : Nat → Nat → List Nat → Nat
  | 0, k, _ => k
  | f + 1, k, ks => if ks.contains k then kindF f ((k + 1) % 14) ks else k
noncomputable def kindsOf (N : List Nat) : List Nat := N.map (· % 14)
noncomputable def numsStep (N : List Nat) (d : Nat) : List Nat := N ++ [d - d % 14 + kindF 2 (d % 14) (kindsOf N)]
noncomputable def nums01 (D : List Nat) : List Nat := D.foldl numsStep []
theorem kind_lt : ∀ (f k : Nat) (ks : List Nat), k < 14 → kindF f k ks < 14
  | 0, k, _, h => h
  | f + 1, k, ks, h => by
    unfold kindF
    split
    · exact kind_lt f _ _ (Nat.mod_lt _ (by decide))
    · exact h
theorem kind_free {k : Nat} (hk : k < 14) {ks : List Nat} (hl : ks.length ≤ 2) (hks : ∀ x ∈ ks, x < 14) : ks.contains (kindF 2 k ks) = false := by
  match ks, hl with
  | [], _ => rfl
  | [a], _ =>
    have key : ∀ a k : Fin 14, [a.1].contains (kindF 2 k.1 [a.1]) = false := by decide +kernel
    exact key ⟨a, hks a (.head _)⟩ ⟨k, hk⟩
  | [a, b], _ =>
    have key : ∀ a b k : Fin 14, [a.1, b.1].contains (kindF 2 k.1 [a.1, b.1]) = false := by decide +kernel
    exact key ⟨a, hks a (.head _)⟩ ⟨b, hks b (.tail _ (.head _))⟩ ⟨k, hk⟩
theorem has_int (ks : List Nat) (k : Nat) : (ks.map fun n : Nat => (n : Int)).contains (k : Int) = ks.contains k := by
  rw [Bool.eq_iff_iff, List.contains_iff_mem, List.contains_iff_mem, List.mem_map]
  exact ⟨fun ⟨j, hj, e⟩ => by have : j = k := by omega
                              exact this ▸ hj, fun h => ⟨k, h, rfl⟩⟩
section
variable {w : World} {S0 : Shared} {Kf : Frag} {c : Cx} {m : Ms} {σ : Sto} {K : Fl → Ms → Sto → Prop} {mg mb : Str → Option Value}
variable {pm cd : Value} {L : Addr} (FO : FnOk S0 aLaw (mkFd stLaw "law" pm cd .none .none) (bodyOf stLaw) (locals (scopeOf stLaw)))
theorem lawN (H : Hc S0 Kf mg mb) {D : List Nat} {da : Addr} {C : Sto} (hD : D.length = 3)
    (h : ∀ na, Ex pw w S0 (lawC c m L FO) (lawB 6) [(3, .ref na)] ((na, .list (nA (nums01 D))) :: (da, .list (nA D)) :: C) K) :
    Ex pw w S0 (lawC c m L FO) (lawB 4) [(2, .ref da)] ((da, .list (nA D)) :: C) K := by
  -- numbers = []
  refine ex_assign ?_
  refine ev_list ?_
  refine evs_nil ?_
  refine ⟨sz (by simp), fun na => ?_⟩
  refine sto_loc (i := 3) rfl rfl ?_ -- numbers
  -- for draw in draws:
  refine ex_for ?_
  refine ev_loc (i := 2) rfl rfl rfl rfl ?_ -- draws
  refine ⟨_, _, itb_list (xs := nA D), ?_⟩
  refine turns_gen (fun xs m0 T0 => ∃ (ds N : List Nat), xs = nA ds ∧ ds.foldl numsStep N = nums01 D ∧ N.length + ds.length = 3 ∧ Wk m0 T0 [(3, .ref na)] ((na, .list (nA N)) :: (da, .list (nA D)) :: C)) ?_ ?_ ?_ _ _ _ ?_
  · rintro xs m0 T0 ⟨ds, N, -, -, -, hw⟩
    exact mem_st (hw.st.subset (.tail _ (.head _)))
  · rintro y xs m0 T0 ⟨ds, N, hx, hf, hl, hw⟩ p
    obtain ⟨d, ds', rfl, rfl, rfl⟩ := nA_cons hx
    have hNl : (kindsOf N).length ≤ 2 := by unfold kindsOf; rw [List.length_map]; simp at hl; omega
    have hN14 : ∀ x ∈ kindsOf N, x < 14 := fun x hx => by
      obtain ⟨n, _, rfl⟩ := List.mem_map.mp hx
      exact Nat.mod_lt _ (by decide)
    have hfree := kind_free (k := d % 14) (Nat.mod_lt _ (by decide)) hNl hN14
    have hf : ds'.foldl numsStep (N ++ [d - d % 14 + kindF 2 (d % 14) (kindsOf N)]) = nums01 D := hf
    generalize hkf : kindF 2 (d % 14) (kindsOf N) = kf at hfree hf
    refine asg_name (sto_loc (i := 4) rfl rfl ?_)
    refine Ex.wk (wk_cons hw 4 _) ?_
    -- kind = draw % 14
    refine ex_assign ?_
    refine ev_bin ?_
    refine ev_loc (i := 4) rfl rfl rfl rfl ?_ -- draw
    refine ev_int ?_ -- 14
    refine bin_mod (by decide) ?_
    rw [show ((d : Nat) : Int).fmod 14 = ((d % 14 : Nat) : Int) from fmod_nat _ 14]
    refine sto_loc (i := 5) rfl rfl ?_ -- kind
    -- while kind in [number % 14 for number in numbers]:
    refine ex_whl (fun f m0 τ0 => ∃ k : Nat, m0 = [(5, .int (k : Int)), (4, .int (d : Int)), (3, .ref na)] ∧ τ0 = (na, .list (nA N)) :: (da, .list (nA D)) :: C ∧ kindF f k (kindsOf N) = kf) 2
      (m0 := [(5, .int ((d % 14 : Nat) : Int)), (4, .int (d : Int)), (3, .ref na)]) (σ0 := (na, .list (nA N)) :: (da, .list (nA D)) :: C) (.of ⟨rfl, rfl, rfl, trivial⟩ (.refl _)) ⟨d % 14, rfl, rfl, hkf⟩ ?_
    rintro f _ _ ⟨k, rfl, rfl, hk⟩
    refine et_cmp ?_ -- kind in [..]
    refine ev_loc (i := 5) rfl rfl rfl rfl ?_ -- kind
    refine ev_comp (cl := []) (names := [".0", "number"]) (nd := by decide +kernel) rfl (by decide +kernel) (by decide +kernel) rfl ?_
    refine ev_loc (i := 3) rfl rfl rfl rfl ?_ -- numbers
    refine ⟨_, _, itb_list (xs := nA N), mem_st (.head _), fun L2 => ?_⟩
    refine ct_mapA (xs := N) (fun n : Nat => V.int (n : Int)) (fun n => V.int ((n % 14 : Nat) : Int)) (mem_st (.head _)) (sz (by simp at hl; omega)) (fun n hn p q => ?_) ?_
    · refine asg_name (sto_loc (i := 1) rfl rfl ?_)
      refine ev_bin ?_
      refine ev_loc (i := 1) rfl rfl rfl rfl ?_ -- number
      refine ev_int ?_ -- 14
      refine bin_mod (by decide) ?_
      rw [show ((n : Nat) : Int).fmod 14 = ((n % 14 : Nat) : Int) from fmod_nat _ 14]
      exact ⟨rfl, .refl _⟩
    refine ⟨_, .refl _, fun kl => ?_⟩
    rw [show (N.map fun n => V.int ((n % 14 : Nat) : Int)) = ((kindsOf N).map fun n : Nat => (n : Int)).map V.int by unfold kindsOf; rw [List.map_map, List.map_map]; rfl]
    refine cmp_in_ints (mem_st (.head _)) ?_
    rw [has_int]
    refine tru_bool ?_
    refine ⟨fun ht => ?_, fun hfl => ?_⟩
    · cases f with
      | zero =>
        have hk : k = kf := hk
        rw [hk, hfree] at ht; cases ht
      | succ f =>
      unfold kindF at hk
      rw [if_pos ht] at hk
      -- kind = (kind + 1) % 14
      refine ex_assign ?_
      refine ev_bin ?_
      refine ev_bin ?_
      refine ev_loc (i := 5) rfl rfl rfl rfl ?_ -- kind
      refine ev_int ?_ -- 1
      refine bin_add ?_ -- kind + 1
      refine ev_int ?_ -- 14
      refine bin_mod (by decide) ?_
      rw [show ((k : Nat) : Int) + 1 = ((k + 1 : Nat) : Int) by omega, show (((k + 1 : Nat)) : Int).fmod 14 = (((k + 1) % 14 : Nat) : Int) from fmod_nat _ 14]
      refine sto_loc (i := 5) rfl rfl ?_ -- kind
      exact ex_nil ⟨f, [(5, .int (((k + 1) % 14 : Nat) : Int)), (4, .int (d : Int)), (3, .ref na)], (na, .list (nA N)) :: (da, .list (nA D)) :: C, by omega, .of ⟨rfl, rfl, rfl, trivial⟩ (.cons _ (.refl _)), (k + 1) % 14, rfl, rfl, hk⟩
    · have hk : k = kf := by
        cases f with
        | zero => exact hk
        | succ f =>
          unfold kindF at hk
          rw [if_neg (by rw [hfl]; decide)] at hk
          exact hk
      refine Ex.wk (m' := [(5, .int (k : Int)), (4, .int (d : Int)), (3, .ref na)]) (σ' := (na, .list (nA N)) :: (da, .list (nA D)) :: C) (.of ⟨rfl, rfl, rfl, trivial⟩ (.cons _ (.refl _))) ?_
      -- numbers.append(draw - draw % 14 + kind)
      refine ex_expr ?_
      refine ev_meth ?_
      refine ev_loc (i := 3) rfl rfl rfl rfl ?_ -- numbers
      refine mth_append (mem_st (.head _)) ?_
      refine ⟨kpr_blt, ?_⟩
      refine evs_cons ?_
      refine ev_bin ?_
      refine ev_bin ?_
      refine ev_loc (i := 4) rfl rfl rfl rfl ?_ -- draw
      refine ev_bin ?_
      refine ev_loc (i := 4) rfl rfl rfl rfl ?_ -- draw
      refine ev_int ?_ -- 14
      refine bin_mod (by decide) ?_
      rw [show ((d : Nat) : Int).fmod 14 = ((d % 14 : Nat) : Int) from fmod_nat _ 14]
      refine bin_sub ?_ -- draw - draw % 14
      refine ev_loc (i := 5) rfl rfl rfl rfl ?_ -- kind
      refine bin_add ?_ -- draw - draw % 14 + kind
      have hmod := Nat.mod_le d 14
      rw [show ((d : Nat) : Int) - ((d % 14 : Nat) : Int) + (k : Int) = ((d - d % 14 + k : Nat) : Int) by omega]
      refine evs_nil ?_
      refine cal_append .head (sz (by rw [nA_len]; simp at hl; omega)) ?_
      refine ex_nil ⟨_, _, Wk.rfl, ds', N ++ [d - d % 14 + k], rfl, by rw [hk]; exact hf, by simp at hl ⊢; omega, ?_⟩
      rw [← nA_app]
      exact .of ⟨rfl, trivial⟩ (.refl _)
  · rintro m0 T0 ⟨ds, N, hx, hf, hl, hw⟩
    obtain rfl := nA_nil hx
    have hf : N = nums01 D := hf
    subst hf
    exact Ex.wk hw (h na)
  · exact ⟨D, [], rfl, rfl, by simp; exact hD, .of ⟨rfl, trivial⟩ (.refl _)⟩
/- the numbers -/
theorem nums_fact {D : List Nat} (hD : D.length = 3) (hlt : ∀ n ∈ D, n < 420000) : ∃ n0 n1 n2, nums01 D = [n0, n1, n2] ∧ n0 < 500000 ∧ n1 < 500000 ∧ n2 < 500000 ∧ n0 % 14 ≠ n1 % 14 ∧ n0 % 14 ≠ n2 % 14 ∧ n1 % 14 ≠ n2 % 14 := by
  obtain ⟨d0, d1, d2, rfl⟩ := len3 hD
  have h0 := hlt d0 (.head _)
  have h1 := hlt d1 (.tail _ (.head _))
  have h2 := hlt d2 (.tail _ (.tail _ (.head _)))
  have m0 : d0 % 14 < 14 := Nat.mod_lt _ (by decide)
  have m1 : d1 % 14 < 14 := Nat.mod_lt _ (by decide)
  have m2 : d2 % 14 < 14 := Nat.mod_lt _ (by decide)
  have nn : ∀ a b : Nat, [a].contains b = false → a ≠ b := fun a b h e => by subst e; simp at h
  -- the first
  have e0 : nums01 [d0, d1, d2] = numsStep (numsStep [d0 - d0 % 14 + d0 % 14] d1) d2 := rfl
  rw [show d0 - d0 % 14 + d0 % 14 = d0 by have := Nat.mod_le d0 14; omega] at e0
  have k1 := kind_lt 2 (d1 % 14) (kindsOf [d0]) m1
  have f1 := kind_free (k := d1 % 14) m1 (ks := kindsOf [d0]) (show 1 ≤ 2 by decide) (fun x hx => by obtain rfl := List.mem_singleton.mp hx; exact m0)
  have e1 : numsStep [d0] d1 = [d0, d1 - d1 % 14 + kindF 2 (d1 % 14) (kindsOf [d0])] := rfl
  rw [e1] at e0
  generalize kindF 2 (d1 % 14) (kindsOf [d0]) = q1 at *
  have q1m : (d1 - d1 % 14 + q1) % 14 = q1 := by omega
  generalize hn1 : d1 - d1 % 14 + q1 = n1 at *
  have k2 := kind_lt 2 (d2 % 14) (kindsOf [d0, n1]) m2
  have f2 := kind_free (k := d2 % 14) m2 (ks := kindsOf [d0, n1]) (show 2 ≤ 2 by decide) (fun x hx => by
    rcases List.mem_cons.mp hx with rfl | hx
    · exact m0
    · obtain rfl := List.mem_singleton.mp hx; exact Nat.mod_lt _ (by decide))
  have e2 : numsStep [d0, n1] d2 = [d0, n1, d2 - d2 % 14 + kindF 2 (d2 % 14) (kindsOf [d0, n1])] := rfl
  rw [e2] at e0
  generalize kindF 2 (d2 % 14) (kindsOf [d0, n1]) = q2 at *
  have q2m : (d2 - d2 % 14 + q2) % 14 = q2 := by omega
  refine ⟨d0, n1, d2 - d2 % 14 + q2, e0, by omega, by omega, by omega, ?_, ?_, ?_⟩
  · rw [q1m]
    intro e
    have : [d0 % 14].contains q1 = true := by simp [e]
    exact absurd (f1.symm.trans this) (by decide)
  · rw [q2m]
    intro e
    have : [d0 % 14, n1 % 14].contains q2 = true := by simp [e]
    exact absurd (f2.symm.trans this) (by decide)
  · rw [q2m]
    intro e
    have : [d0 % 14, n1 % 14].contains q2 = true := by simp [e]
    exact absurd (f2.symm.trans this) (by decide)
end
end Mine
end

section
set_option maxRecDepth 100000
namespace Mine
theorem bin_cat_tx {prog : Program} {w : World} {S0 : Shared} {c : Cx} {m : Ms} {σ : Sto} {K : V → Sto → Prop} {a b : List Nat} (h : a.length + b.length ≤ 1000000) (k : K (.str (tx (a ++ b))) σ) : Bin prog w S0 c m σ .Add (.str (tx a)) (.str (tx b)) K :=
  bin_cat (sz (by rw [len_tx, len_tx]; exact h)) (by rw [tx_app]; exact k)

theorem octT_len (n : Nat) : (octT n).length ≤ 1 + n := by have := octL_len n; unfold octT; simpa using this
theorem vd_figs (l : Nat) : ∀ (acc rest : List Nat), vd 0 ((figsAcc l acc).map octC ++ rest) = vd l (acc.map octC ++ rest) := by
  induction l using Nat.strongRecOn with
  | ind l ih =>
    intro acc rest
    unfold figsAcc
    split
    · rename_i h; subst h; rfl
    · rw [ih (l / 64) (by omega), List.map_cons, List.cons_append]
      have hb : octC (64 + l % 64) / 64 % 2 = 1 ∧ octC (64 + l % 64) % 64 = l % 64 := by
        unfold octC; split <;> omega
      rw [vd, if_pos hb.1, hb.2]
      congr 1; omega
theorem vd_oct (n : Nat) (rest : List Nat) : vd 0 (octT n ++ rest) = some (n, rest) := by
  unfold octT octL
  rw [vd_figs]
  have hb : octC (n % 64) / 64 % 2 ≠ 1 ∧ octC (n % 64) % 64 = n % 64 := by
    unfold octC; split <;> omega
  rw [List.map_cons, List.cons_append, vd, if_neg hb.1, hb.2]
  simp only [List.map_nil, List.nil_append]
  congr 2; omega
theorem octT_seen (n : Nat) : ∀ c ∈ octT n, b1.contains (c : Int) = false := fun c hc => by
  obtain ⟨f, hf, rfl⟩ := List.mem_map.mp hc
  have hlt : f < 128 := by
    have key : ∀ l acc, (∀ x ∈ acc, x < 128) → ∀ x ∈ figsAcc l acc, x < 128 := by
      intro l
      induction l using Nat.strongRecOn with
      | ind l ih =>
        intro acc h
        unfold figsAcc
        split
        · exact h
        · exact ih _ (by omega) _ fun x hx => by
            rcases List.mem_cons.mp hx with rfl | hx
            · omega
            · exact h x hx
    exact key _ _ (fun x hx => by obtain rfl := List.mem_singleton.mp hx; omega) f hf
  have key : ∀ f : Fin 128, b1.contains ((octC f.1 : Nat) : Int) = false := by decide +kernel
  exact key ⟨f, hlt⟩
theorem unseen_in (n : Int) : b1.contains ((unseenC n : Nat) : Int) = true := by
  have hp0 : 0 ≤ n % 27 := Int.emod_nonneg _ (by decide)
  have hp1 : n % 27 < 27 := Int.emod_lt_of_pos _ (by decide)
  have key : ∀ p : Fin 27, b1.contains (((b1.getD p.1 0).toNat : Nat) : Int) = true := by decide +kernel
  exact key ⟨(n % 27).toNat, by omega⟩
section
variable {prog : Program} {w : World} {S0 : Shared} {c : Cx}
/-- a comprehension that goes through a row of stores -/
theorem ct_seq {P : Sto → Prop} {t elt : Expr} {K : List V → Ms → Sto → Prop} (S : Nat → Sto) (g : Nat → V) (hP : ∀ i, P (c.st [] (S i))) :
    ∀ (xs ys : List V) (i : Nat), ys.length + xs.length ≤ sizeLine →
    (∀ j x, xs[j]? = some x → ∀ p q, Asg prog w S0 ((c.push q).push p) t x [] (S (i + j)) fun m1 τ1 => Ev prog w S0 ((c.push q).push p) elt m1 τ1 fun y τ3 => y = g (i + j) ∧ (S (i + j + 1)).Sublist τ3) →
    K (ys ++ (List.range' i xs.length).map g) [] (S (i + xs.length)) → CT prog w S0 c P t [] elt K xs ys [] (S i)
  | [], ys, i, hl, turn, fin => ⟨hP _, by simpa using fin⟩
  | x :: xs, ys, i, hl, turn, fin => by
    refine ⟨hP _, by simp at hl; omega, fun p q => Asg.mono (turn 0 x rfl p q) fun m1 τ1 h1 => ⟨fun _ => Ev.mono h1 fun y τ3 ⟨hy, hs⟩ => ?_, fun e => (nomatch e)⟩⟩
    subst hy
    refine ⟨[], S (i + 1), ⟨fun _ _ h => (nomatch h), hs⟩, ct_seq S g hP xs (ys ++ [g i]) (i + 1) (by simp at hl ⊢; omega) (fun j x' hx' p' q' => ?_) ?_⟩
    · have := turn (j + 1) x' hx' p' q'
      rw [show i + (j + 1) = i + 1 + j by omega] at this
      exact this
    · rw [List.length_cons, List.range'_succ, List.map_cons] at fin
      rw [List.append_assoc, show i + 1 + xs.length = i + (xs.length + 1) by omega]
      exact fin
end
theorem figsAcc_log : ∀ (k l : Nat) (acc : List Nat), l < 64 ^ k → (figsAcc l acc).length ≤ acc.length + k
  | 0, l, acc, h => by
    have : l = 0 := by simpa using h
    subst this
    unfold figsAcc; simp
  | k + 1, l, acc, h => by
    unfold figsAcc
    split
    · omega
    · have h' : l < 64 ^ k * 64 := h
      have := figsAcc_log k (l / 64) ((64 + l % 64) :: acc) (by omega)
      simp at this; omega
theorem octT_len5 {n : Nat} (h : n < 1000000) : (octT n).length ≤ 5 := by
  unfold octT octL
  rw [List.length_map]
  have := figsAcc_log 4 (n / 64) [n % 64] (by have e : (64 : Nat) ^ 4 = 16777216 := by decide
                                              omega)
  simpa using this
noncomputable def tapeL (T : Int) (D : List Nat) : List Nat := (D.map fun n : Nat => [unseenC (T + n)] ++ octT n).flatten
noncomputable def flatD (D : List Nat) : List Nat := (D.map octT).flatten
noncomputable def posD (D : List Nat) (i : Nat) : Nat := (flatD (D.take i)).length
theorem flat_len (f : Nat → List Nat) (b : Nat) : ∀ D : List Nat, (∀ n ∈ D, (f n).length ≤ b) → (D.map f).flatten.length ≤ D.length * b
  | [], _ => by simp
  | n :: D, h => by
    have h1 := h n (.head _)
    have h2 := flat_len f b D fun m hm => h m (.tail _ hm)
    rw [List.map_cons, List.flatten_cons, List.length_append, List.length_cons, Nat.add_mul]; omega
theorem tape_seen (T : Int) : ∀ D : List Nat, (tapeL T D).filter (fun c : Nat => !b1.contains (c : Int)) = flatD D
  | [] => rfl
  | n :: D => by
    have ih := tape_seen T D
    unfold tapeL flatD at ih ⊢
    rw [List.map_cons, List.flatten_cons, List.filter_append, ih, List.map_cons, List.flatten_cons, List.filter_append, List.filter_cons_of_neg (by rw [unseen_in]; decide), List.filter_nil, List.nil_append,
      List.filter_eq_self.mpr (fun c hc => by rw [octT_seen n c hc]; rfl)]
theorem flatD_app (A B : List Nat) : flatD (A ++ B) = flatD A ++ flatD B := by simp [flatD]
theorem vd_pos (D : List Nat) (i : Nat) (n : Nat) (h : D[i]? = some n) : vd 0 ((flatD D).drop (posD D i)) = some (n, (flatD D).drop (posD D (i + 1))) := by
  obtain ⟨hlt, e⟩ := List.getElem?_eq_some_iff.mp h
  have e1 : D = D.take i ++ n :: D.drop (i + 1) := by
    rw [← e, ← List.drop_eq_getElem_cons hlt, List.take_append_drop]
  have e2 : D.take (i + 1) = D.take i ++ [n] := by rw [List.take_add_one, h]; rfl
  have e3 : flatD D = flatD (D.take i) ++ (octT n ++ flatD (D.drop (i + 1))) := by
    have := congrArg flatD e1
    rw [flatD_app] at this; exact this
  have e4 : flatD D = flatD (D.take (i + 1)) ++ flatD (D.drop (i + 1)) := by rw [← flatD_app, List.take_append_drop]
  unfold posD
  have d1 : (flatD D).drop (flatD (D.take i)).length = octT n ++ flatD (D.drop (i + 1)) := by rw [e3, List.drop_left]
  have d2 : (flatD D).drop (flatD (D.take (i + 1))).length = flatD (D.drop (i + 1)) := by
    generalize hA : flatD (D.take (i + 1)) = A at e4 ⊢
    rw [e4, List.drop_left]
  rw [d1, d2, vd_oct]
theorem posD_le (D : List Nat) (i : Nat) : posD D i ≤ (flatD D).length := by
  have := congrArg List.length (flatD_app (D.take i) (D.drop i))
  rw [List.take_append_drop, List.length_append] at this
  unfold posD; omega
section
variable {w : World} {S0 : Shared} {Kf : Frag} {c : Cx} {m : Ms} {σ : Sto} {K : Fl → Ms → Sto → Prop} {mg mb : Str → Option Value}
variable {pm cd : Value} {L : Addr} (FO : FnOk S0 aLaw (mkFd stLaw "law" pm cd .none .none) (bodyOf stLaw) (locals (scopeOf stLaw)))
theorem lawT (H : Hc S0 Kf mg mb) (hroom : c.A.depth + 2 < recursionLimit) (hu : (lawC c m L FO).A.units < cLine) {T : Int} {D : List Nat} {na : Addr} {par wor mar : Option V} (hD : D.length ≤ 4) (hlt : ∀ n ∈ D, n < 500000) (τ : Sto)
    (h : ∀ rd oct, Ex pw w S0 (lawC c m L FO) (lawB 10) [(7, .ref rd)] ((rd, .list (nA D)) :: (τ ++ (c5 L (some (.int T)) par oct wor mar ++ σ))) K) :
    Ex pw w S0 (lawC c m L FO) (lawB 6) [(3, .ref na)] ((na, .list (nA D)) :: (τ ++ (c5 L (some (.int T)) par .none wor mar ++ σ))) K := by
  have htl : (tapeL T D).length ≤ 24 := by
    have := flat_len (fun n : Nat => [unseenC (T + n)] ++ octT n) 6 D fun n hn => by have := octT_len5 (show n < 1000000 by have := hlt n hn; omega); simp; omega
    unfold tapeL; omega
  -- tape = ''.join([_law_unseen(total + x) + _law_octets(x) for x in draws])
  refine ex_assign ?_
  refine ev_meth ?_
  refine ev_str ?_ -- ''
  refine mth_join ?_
  refine ⟨kpr_blt, ?_⟩
  refine evs_cons ?_
  refine ev_comp (cl := [("total", L + 1)]) (names := [".0", "number"]) (nd := by decide +kernel) rfl (by decide +kernel) (by decide +kernel) rfl ?_
  refine ev_loc (i := 3) rfl rfl rfl rfl ?_ -- numbers
  refine ⟨_, _, itb_list, mem_st (.head _), fun L2 => ?_⟩
  refine ct_mapA (fun n : Nat => V.int (n : Int)) (fun n : Nat => V.str (tx ([unseenC (T + n)] ++ octT n))) (mem_st (.head _)) (sz (by omega)) (fun n hn p q => ?_) ?_
  · have hb := hlt n hn
    refine asg_name (sto_loc (i := 1) rfl rfl ?_)
    refine ev_bin ?_
    refine ev_call ?_ -- _law_unseen(total + x)
    refine ev_glob (V0 := .ref aUnseen) H.H.B rfl rfl H.H.g_law_unseen rfl ?_
    refine ⟨H.H.f_unseen.kpr, ?_⟩
    refine evs_cons ?_
    refine ev_bin ?_
    refine ev_cell (Or.inl rfl) rfl rfl rfl (.tail _ (List.mem_append_right _ (List.mem_append_left _ (List.mem_of_getElem? (i := 4) rfl)))) ?_ -- total
    refine ev_loc (i := 1) rfl rfl rfl rfl ?_ -- x
    refine bin_add ?_ -- total + x
    refine evs_nil ?_
    refine unseen H.H (by show c.A.depth + 1 < _; omega) ?_
    rw [one_tx]
    refine ev_call ?_ -- _law_octets(x)
    refine ev_glob (V0 := .ref aOctets) H.H.B rfl rfl H.H.g_law_octets rfl ?_
    refine ⟨H.H.f_octets.kpr, ?_⟩
    refine evs_cons ?_
    refine ev_loc (i := 1) rfl rfl rfl rfl ?_ -- x
    refine evs_nil ?_
    refine octets H.H (by show c.A.depth + 1 < _; omega) (by omega) ?_
    have := octT_len5 (show n < 1000000 by omega)
    refine bin_cat_tx (by simp; omega) ?_
    exact ⟨rfl, .refl _⟩
  refine ⟨_, .refl _, fun tl => ?_⟩
  rw [show (D.map fun n : Nat => V.str (tx ([unseenC (T + n)] ++ octT n))) = ((D.map fun n : Nat => [unseenC (T + n)] ++ octT n).map tx).map V.str by rw [List.map_map, List.map_map]; rfl]
  refine evs_nil ?_
  refine cal_join (mem_st (.head _)) ?_ ?_
  · refine join_ok0 6 (fun l hl => ?_) (by rw [List.length_map]; omega)
    obtain ⟨n, hn, rfl⟩ := List.mem_map.mp hl
    have := octT_len5 (show n < 1000000 by have := hlt n hn; omega)
    simp; omega
  rw [join_tx, show (D.map fun n : Nat => [unseenC (T + n)] ++ octT n).flatten = tapeL T D from rfl]
  refine sto_loc (i := 6) rfl rfl ?_ -- tape
  -- octets = iter([ord(sign) for sign in _law_bare(tape)])
  refine ex_assign ?_
  refine ev_call ?_
  refine ev_blt H.H.B rfl rfl (by decide) H.H.no_iter boot_iter ?_
  refine ⟨kpr_blt, ?_⟩
  refine evs_cons ?_
  refine ev_comp (cl := []) (names := [".0", "sign"]) (nd := by decide +kernel) rfl (by decide +kernel) (by decide +kernel) rfl ?_
  refine ev_call ?_ -- _law_bare(tape)
  refine ev_glob (V0 := .ref aBare) H.H.B rfl rfl H.H.g_law_bare rfl ?_
  refine ⟨H.H.f_bare.kpr, ?_⟩
  refine evs_cons ?_
  refine ev_loc (i := 6) rfl rfl rfl rfl ?_ -- tape
  refine evs_nil ?_
  refine bare0 H.H (by show c.A.depth + 1 + 1 < _; omega) (by omega) ?_
  rw [tape_seen]
  refine ⟨_, _, itb_str, trivial, fun L2 => ?_⟩
  rw [signs_tx]
  have hfl : (flatD D).length ≤ 20 := by
    have := flat_len octT 5 D fun n hn => octT_len5 (by have := hlt n hn; omega)
    unfold flatD; omega
  refine ct_mapA (fun c : Nat => V.str (one c)) (fun c : Nat => V.int (c : Int)) trivial (sz (by omega)) (fun s hs p q => ?_) ?_
  · refine asg_name (sto_loc (i := 1) rfl rfl ?_)
    refine ev_call ?_ -- ord(sign)
    refine ev_blt H.H.B rfl rfl (by decide) H.H.no_ord boot_ord ?_
    refine ⟨kpr_blt, ?_⟩
    refine evs_cons ?_
    refine ev_loc (i := 1) rfl rfl rfl rfl ?_ -- sign
    refine evs_nil ?_
    refine cal_ord ?_
    exact ⟨rfl, .refl _⟩
  refine ⟨_, .refl _, fun fl => ?_⟩
  rw [show (flatD D).map (fun c : Nat => V.int (c : Int)) = nA (flatD D) from rfl]
  refine evs_nil ?_
  refine cal_iter (mem_st (.head _)) fun it => ?_
  refine sto_cell rfl rfl (.tail (.tail (.tail (.tail (Upd.app (.tail (.tail .head)) τ))))) ?_ -- octets
  -- read = [_parse_varint(octets) for x in draws]
  refine ex_assign_comp (cl := [("octets", L + 1 + 1 + 1)]) (names := [".0", "number"]) (nd := by decide +kernel) rfl (by decide +kernel) (by decide +kernel) rfl ?_ rfl
  refine ev_loc (i := 3) rfl rfl rfl rfl ?_ -- numbers
  refine ⟨_, _, itb_list (xs := nA D), mem_st (.tail _ (.tail _ (.tail _ (.head _)))), fun L3 => ?_⟩
  refine ct_seq (fun i => (it, .liter fl (posD D i)) :: (fl, .list (nA (flatD D))) :: (tl, .list (((D.map fun n : Nat => [unseenC (T + n)] ++ octT n).map tx).map V.str)) :: (na, .list (nA D)) :: (τ ++ (c5 L (some (.int T)) par (some (.ref it)) wor mar ++ σ))) (fun j => V.int ((D.getD j 0 : Nat) : Int))
    (fun i => mem_st (.tail _ (.tail _ (.tail _ (.head _))))) _ [] 0 (sz (by rw [nA_len]; simp; omega)) (fun j x' hx p q => ?_) ?_
  · have hj : j < D.length := by have := (List.getElem?_eq_some_iff.mp hx).1; rw [nA_len] at this; exact this
    have hdj : D[j]? = some (D.getD j 0) := by rw [List.getD_eq_getElem?_getD, List.getElem?_eq_getElem hj]; rfl
    rw [Nat.zero_add]
    refine asg_name (sto_loc (i := 1) rfl rfl ?_)
    refine ev_call ?_ -- _parse_varint(octets)
    refine ev_glob (V0 := .ref aVarint) H.H.B rfl rfl H.H.g_parse_varint rfl ?_
    refine ⟨H.H.f_varint.kpr, ?_⟩
    refine evs_cons ?_
    refine ev_cell (Or.inl rfl) rfl rfl rfl (.tail _ (.tail _ (.tail _ (.tail _ (List.mem_append_right _ (List.mem_append_left _ (List.mem_of_getElem? (i := 2) rfl))))))) ?_ -- octets
    refine evs_nil ?_
    refine varint H.H (by show c.A.depth + 1 < _; omega) (bs := flatD D) (i := posD D j) (j := posD D (j + 1)) (v := D.getD j 0) (l := fl)
      (fun a => (it, .liter fl a) :: (fl, .list (nA (flatD D))) :: (tl, .list (((D.map fun n : Nat => [unseenC (T + n)] ++ octT n).map tx).map V.str)) :: (na, .list (nA D)) :: (τ ++ (c5 L (some (.int T)) par (some (.ref it)) wor mar ++ σ))) (fun a b => .head) (fun a => .tail _ (.head _)) (vd_pos D j _ hdj) (posD_le _ _) ?_ ⟨rfl, .refl _⟩
    have := hlt _ (List.mem_of_getElem? hdj)
    have e : (2 : Nat) ^ 60 = 1152921504606846976 := by decide
    omega
  refine ⟨_, .refl _, fun rd q => ?_⟩
  rw [nA_len, Nat.zero_add, show ([] : List V) ++ (List.range' 0 D.length).map (fun j => V.int ((D.getD j 0 : Nat) : Int)) = nA D by
    rw [List.nil_append, ← List.range_eq_range']
    unfold nA
    apply List.ext_getElem
    · simp
    · intro i h1 h2
      simp at h1 h2
      simp [List.getD_eq_getElem?_getD, List.getElem?_eq_getElem h2]]
  refine sto_loc (i := 7) rfl rfl ?_ -- read
  -- if read != draws or list(octets) != []:
  refine ex_if ?_
  refine et_or ?_
  refine et_cmp ?_ -- read != draws
  refine ev_loc (i := 7) rfl rfl rfl rfl ?_ -- read
  refine ev_loc (i := 3) rfl rfl rfl rfl ?_ -- numbers
  refine cmp_lne V.int eqat_int (xs := D.map fun n : Nat => (n : Int)) (ys := D.map fun n : Nat => (n : Int)) (mem_st (by rw [← nA_iV]; exact .head _)) (mem_st (by rw [← nA_iV]; exact .tail _ (.tail _ (.tail _ (.tail _ (.head _)))))) hu ?_
  rw [beq_self_eq_true]
  refine tru_bool ?_
  refine ⟨fun _ => ?_, fun e => (nomatch e)⟩
  refine et_or ?_
  refine et_cmp ?_ -- list(octets) != []
  refine ev_call ?_ -- list(octets)
  refine ev_blt H.H.B rfl rfl (by decide) H.H.no_list boot_list ?_
  refine ⟨kpr_type, ?_⟩
  refine evs_cons ?_
  refine ev_cell (Or.inl rfl) rfl rfl rfl (.tail _ (.tail _ (.tail _ (.tail _ (.tail _ (List.mem_append_right _ (List.mem_append_left _ (List.mem_of_getElem? (i := 2) rfl)))))))) ?_ -- octets
  refine evs_nil ?_
  have hp3 : posD D D.length = (nA (flatD D)).length := by unfold posD; rw [nA_len, List.take_length]
  refine cal_list_liter (l := fl) (xs := nA (flatD D)) (mem_st (.tail _ (.tail _ (.head _)))) (by rw [← hp3]; exact .tail .head) fun e1 => ?_
  refine ev_list ?_
  refine evs_nil ?_
  refine ⟨sz (by simp), fun e2 => ?_⟩
  refine cmp_lne V.int eqat_int (xs := []) (ys := []) (mem_st (.tail _ (.head _))) (mem_st (.head _)) hu ?_
  refine tru_bool ?_
  refine ⟨fun _ => ?_, fun e => (nomatch e)⟩
  refine et_or_nil ?_
  refine ⟨fun e => (nomatch e), fun _ => ?_⟩
  refine ex_nil ?_
  refine Ex.wk (m' := [(7, .ref rd)]) (.of ⟨rfl, trivial⟩ ?_) (h rd (some (.ref it)))
  exact .cons _ (.cons _ (.cons_cons _ (.cons _ (.cons _ (.cons _ (.refl _))))))
end
end Mine
end

section
set_option maxRecDepth 100000
namespace Mine
noncomputable def wsOf (D : List Nat) : List (List Nat) := D.map fun n => wordA (2 + n % 14)
noncomputable def typ3 (ws : List (List Nat)) : List (List Nat) := [typA ws 0, typA ws 1, typA ws 2]
/-- what lies before the table and the line -/
noncomputable def A01 (e : Nat → Nat) (L : Addr) (tot par oct : Option V) (wo ma ty : Addr) (ws : List (List Nat)) : Sto :=
  c5 L tot par oct (some (.ref wo)) (some (.ref ma)) ++ [(ty, .list (teV e (typ3 ws))), (ma, .list (teV e [[2], [3], [4]])), (wo, .list (teV e ws))]
theorem perm4 (A B C D σ : Sto) : (A ++ (B ++ (C ++ (D ++ σ)))).Perm ((D ++ C) ++ (B ++ (A ++ σ))) := by
  have e : ∀ X Y Z : Sto, (X ++ (Y ++ Z)).Perm (Y ++ (X ++ Z)) := fun X Y Z => by
    rw [← List.append_assoc, ← List.append_assoc]; exact List.Perm.append_right _ List.perm_append_comm
  rw [List.append_assoc]
  refine (List.Perm.append_left A (List.Perm.append_left B (e C D σ))).trans ?_
  refine (List.Perm.append_left A (e B D _)).trans ?_
  refine (e A D _).trans (List.Perm.append_left D ?_)
  refine (List.Perm.append_left A (e B C _)).trans ?_
  refine (e A C _).trans (List.Perm.append_left C ?_)
  exact e A B σ
theorem ws_get {e : Nat → Nat} {ws : List (List Nat)} (hl : ws.length = 3) {k : Nat} (hk : k < 3) : (teV e ws)[k]? = some (.str (te e (wsAt ws k))) := by
  unfold teV wsAt
  rw [List.getElem?_map, List.getElem?_eq_getElem (by omega), List.getD_eq_getElem?_getD, List.getElem?_eq_getElem (by omega)]; rfl
theorem typ_get {e : Nat → Nat} {ws : List (List Nat)} {k : Nat} (hk : k < 3) : (teV e (typ3 ws))[k]? = some (.str (te e (typA ws k))) := by
  have : k = 0 ∨ k = 1 ∨ k = 2 := by omega
  rcases this with rfl | rfl | rfl <;> rfl
theorem mark_get {e : Nat → Nat} {k : Nat} (hk : k < 3) : (teV e [[2], [3], [4]])[k]? = some (.str (te e [2 + k])) := by
  have : k = 0 ∨ k = 1 ∨ k = 2 := by omega
  rcases this with rfl | rfl | rfl <;> rfl
theorem enc_mark (T : Int) {k : Nat} (hk : k < 3) : te (enc T) [2 + k] = one (unseenC (T + k)) := by
  have : k = 0 ∨ k = 1 ∨ k = 2 := by omega
  rcases this with rfl | rfl | rfl <;> rfl
theorem okW_len {ws : List (List Nat)} (h : okW ws = true) {k : Nat} (hl : ws.length = 3) (hk : k < 3) : (wsAt ws k).length < 5 := by
  unfold okW at h
  rw [List.all_eq_true] at h
  have hm : wsAt ws k ∈ ws := by
    unfold wsAt
    rw [List.getD_eq_getElem?_getD, List.getElem?_eq_getElem (by omega)]
    exact List.getElem_mem _
  have := h _ hm
  rw [Bool.and_eq_true] at this
  exact nb_lt this.2
section
variable {w : World} {S0 : Shared} {Kf : Frag} {c : Cx} {m : Ms} {σ : Sto} {K : Fl → Ms → Sto → Prop} {mg mb : Str → Option Value}
variable {pm cd : Value} {L : Addr} (FO : FnOk S0 aLaw (mkFd stLaw "law" pm cd .none .none) (bodyOf stLaw) (locals (scopeOf stLaw)))
theorem lawW (H : Hc S0 Kf mg mb) (hroom : c.A.depth + 3 < recursionLimit) {T : Int} {D : List Nat} {pa rd : Addr} {oct : Option V} (hD : D.length = 3) (hok : okW (wsOf D) = true)
    (h : ∀ wo ma ty x d hl ln, Ex pw w S0 (lawC c m L FO) (lawB 15) [(9, .ref ty), (10, .ref x), (11, .ref ln)] (A01 (enc T) L (some (.int T)) (some (.ref pa)) oct wo ma ty (wsOf D) ++ LT x d hl [] ln [] σ) K) :
    Ex pw w S0 (lawC c m L FO) (lawB 10) [(7, .ref rd)] ((rd, .list (nA D)) :: ([(pa, .list (teV (enc T) [[0], [1]]))] ++ (c5 L (some (.int T)) (some (.ref pa)) oct .none .none ++ σ))) K := by
  have hwl : (wsOf D).length = 3 := by unfold wsOf; rw [List.length_map]; exact hD
  -- words = [_law_word(2 + number % 14, pair) for number in read]
  refine ex_assign ?_
  refine ev_comp (cl := [("pair", L + 1 + 1)]) (names := [".0", "number"]) (nd := by decide +kernel) rfl (by decide +kernel) (by decide +kernel) rfl ?_
  refine ev_loc (i := 7) rfl rfl rfl rfl ?_ -- read
  refine ⟨_, _, itb_list (xs := nA D), mem_st (.head _), fun L2 => ?_⟩
  refine ct_mapA (xs := D) (fun n : Nat => V.int (n : Int)) (fun n => V.str (te (enc T) (wordA (2 + n % 14)))) (mem_st (.head _)) (sz (by omega)) (fun n hn p q => ?_) ?_
  · refine asg_name (sto_loc (i := 1) rfl rfl ?_)
    refine ev_call ?_ -- _law_word(2 + number % 14, pair)
    refine ev_glob (V0 := .ref aWord) H.H.B rfl rfl H.H.g_law_word rfl ?_
    refine ⟨H.H.f_word.kpr, ?_⟩
    refine evs_cons ?_
    refine ev_bin ?_
    refine ev_int ?_ -- 2
    refine ev_bin ?_
    refine ev_loc (i := 1) rfl rfl rfl rfl ?_ -- number
    refine ev_int ?_ -- 14
    refine bin_mod (by decide) ?_
    rw [show ((n : Nat) : Int).fmod 14 = ((n % 14 : Nat) : Int) from fmod_nat _ 14]
    refine bin_add ?_ -- 2 + number % 14
    rw [show (2 : Int) + ((n % 14 : Nat) : Int) = ((2 + n % 14 : Nat) : Int) by omega]
    refine evs_cons ?_
    refine ev_cell (Or.inl rfl) rfl rfl rfl (List.mem_of_getElem? (i := 5) rfl) ?_ -- pair
    refine evs_nil ?_
    have := Nat.mod_lt n (show 0 < 14 by decide)
    refine word (e := enc T) H.H (by show c.A.depth + 1 < _; omega) (by omega) (List.mem_of_getElem? (i := 1) rfl) ?_
    exact ⟨rfl, .refl _⟩
  refine ⟨_, .refl _, fun wo => ?_⟩
  rw [show (D.map fun n => V.str (te (enc T) (wordA (2 + n % 14)))) = teV (enc T) (wsOf D) by unfold teV wsOf; rw [List.map_map]; rfl]
  generalize wsOf D = ws at *
  refine sto_cell rfl rfl (.tail (.tail (.tail (.tail .head)))) ?_ -- words
  -- marks = [_law_unseen(total + k) for k in range(3)]
  refine ex_assign ?_
  refine ev_comp (cl := [("total", L + 1)]) (names := [".0", "k"]) (nd := by decide +kernel) rfl (by decide +kernel) (by decide +kernel) rfl ?_
  refine ev_call ?_ -- range(3)
  refine ev_blt H.H.B rfl rfl (by decide) H.H.no_range boot_range ?_
  refine ⟨kpr_type, ?_⟩
  refine evs_cons ?_
  refine ev_int ?_ -- 3
  refine evs_nil ?_
  refine cal_range1 fun r1 => ?_
  refine ⟨_, _, itb_range (a := 0) (b := 3) (c := 1) (n := 3) (by decide) (by decide), mem_st (.head _), fun L3 => ?_⟩
  rw [range_nV]
  refine ct_mapA (xs := List.range 3) (fun j : Nat => V.int (j : Int)) (fun k => V.str (te (enc T) [2 + k])) (mem_st (.head _)) (sz (by simp)) (fun k hk p q => ?_) ?_
  · have hk : k < 3 := List.mem_range.mp hk
    refine asg_name (sto_loc (i := 1) rfl rfl ?_)
    refine ev_call ?_ -- _law_unseen(total + k)
    refine ev_glob (V0 := .ref aUnseen) H.H.B rfl rfl H.H.g_law_unseen rfl ?_
    refine ⟨H.H.f_unseen.kpr, ?_⟩
    refine evs_cons ?_
    refine ev_bin ?_
    refine ev_cell (Or.inl rfl) rfl rfl rfl (List.mem_of_getElem? (i := 8) rfl) ?_ -- total
    refine ev_loc (i := 1) rfl rfl rfl rfl ?_ -- k
    refine bin_add ?_ -- total + k
    refine evs_nil ?_
    refine unseen H.H (by show c.A.depth + 1 < _; omega) ?_
    exact ⟨by rw [enc_mark T hk], .refl _⟩
  refine ⟨_, .refl _, fun ma => ?_⟩
  rw [show ((List.range 3).map fun k => V.str (te (enc T) [2 + k])) = teV (enc T) [[2], [3], [4]] from rfl]
  refine sto_cell rfl rfl (.tail (.tail (.tail (.tail (.tail .head))))) ?_ -- marks
  -- typed = [words[k] + marks[k] for k in range(3)]
  refine ex_assign_comp (cl := [("words", L + 1 + 1 + 1 + 1), ("marks", L + 1 + 1 + 1 + 1 + 1)]) (names := [".0", "k"]) (nd := by decide +kernel) rfl (by decide +kernel) (by decide +kernel) rfl ?_ rfl
  refine ev_call ?_ -- range(3)
  refine ev_blt H.H.B rfl rfl (by decide) H.H.no_range boot_range ?_
  refine ⟨kpr_type, ?_⟩
  refine evs_cons ?_
  refine ev_int ?_ -- 3
  refine evs_nil ?_
  refine cal_range1 fun r2 => ?_
  refine ⟨_, _, itb_range (a := 0) (b := 3) (c := 1) (n := 3) (by decide) (by decide), mem_st (.head _), fun L4 => ?_⟩
  rw [range_nV]
  refine ct_mapA (xs := List.range 3) (fun j : Nat => V.int (j : Int)) (fun k => V.str (te (enc T) (typA ws k))) (mem_st (.head _)) (sz (by simp)) (fun k hk p q => ?_) ?_
  · have hk : k < 3 := List.mem_range.mp hk
    refine asg_name (sto_loc (i := 1) rfl rfl ?_)
    refine ev_bin ?_
    refine ev_sub ?_
    refine ev_cell (Or.inl rfl) rfl rfl rfl (List.mem_of_getElem? (i := 7) rfl) ?_ -- words
    refine ev_loc (i := 1) rfl rfl rfl rfl ?_ -- k
    refine sub_list (xs := teV (enc T) ws) (x := .str (te (enc T) (wsAt ws k))) (List.mem_of_getElem? (i := 3) rfl) (by rw [teV_len]; omega) (by omega) (by rw [teV_len]; omega) (by rw [ix_nat]; exact ws_get hwl hk) ?_
    refine ev_sub ?_
    refine ev_cell (Or.inl rfl) rfl rfl rfl (List.mem_of_getElem? (i := 6) rfl) ?_ -- marks
    refine ev_loc (i := 1) rfl rfl rfl rfl ?_ -- k
    refine sub_list (xs := teV (enc T) [[2], [3], [4]]) (x := .str (te (enc T) [2 + k])) (List.mem_of_getElem? (i := 1) rfl) (by rw [teV_len]; show -((3 : Nat) : Int) ≤ _; omega) (by omega) (by rw [teV_len]; simp) (by rw [ix_nat]; exact mark_get hk) ?_
    have := okW_len hok hwl hk
    refine bin_cat_te (by simp; omega) ?_ -- words[k] + marks[k]
    exact ⟨rfl, .refl _⟩
  refine ⟨_, .refl _, fun ty q => ?_⟩
  rw [show ((List.range 3).map fun k => V.str (te (enc T) (typA ws k))) = teV (enc T) (typ3 ws) from rfl]
  refine sto_loc (i := 9) rfl rfl ?_ -- typed
  -- table = Headers()
  refine ex_assign ?_
  refine ev_call ?_ -- Headers()
  refine ev_glob (V0 := .ref aClass) H.H.B rfl rfl H.g_Headers rfl ?_
  refine ⟨kpr_cls H.ck, ?_⟩
  refine evs_nil ?_
  refine mk_headers H (by show c.A.depth + 1 + 1 < _; omega) fun x d hl => ?_
  refine sto_loc (i := 10) rfl rfl ?_ -- table
  -- line = []
  refine ex_assign ?_
  refine ev_list ?_
  refine evs_nil ?_
  refine ⟨sz (by simp), fun ln => ?_⟩
  refine sto_loc (i := 11) rfl rfl ?_ -- line
  refine Ex.wk (m' := [(9, .ref ty), (10, .ref x), (11, .ref ln)]) (σ' := Ln ln [] ++ (Tb x d hl [] ++ ([(ty, .list (teV (enc T) (typ3 ws))), (ma, .list (teV (enc T) [[2], [3], [4]])), (wo, .list (teV (enc T) ws))] ++ (c5 L (some (.int T)) (some (.ref pa)) oct (some (.ref wo)) (some (.ref ma)) ++ σ)))) (.of ⟨rfl, rfl, rfl, trivial⟩ ?_) ?_
  · refine .cons_cons _ (.cons_cons _ (.cons_cons _ (.cons_cons _ (.cons_cons _ (.cons _ (.cons_cons _ (.cons _ (.cons_cons _ (.cons _ (.cons _ (.refl _)))))))))))
  refine Ex.perm (perm4 _ _ _ _ _) ?_
  exact h wo ma ty x d hl ln
end
end Mine
end

section
set_option maxRecDepth 100000
namespace Mine
theorem perm_lt {A : Sto} {x d hl ln : Addr} {tbl ls : List Row} {σ : Sto} : (A ++ LT x d hl tbl ln ls σ).Perm (LT x d hl tbl ln ls (A ++ σ)) := by
  have e : ∀ X Y Z : Sto, (X ++ (Y ++ Z)).Perm (Y ++ (X ++ Z)) := fun X Y Z => by
    rw [← List.append_assoc, ← List.append_assoc]; exact List.Perm.append_right _ List.perm_append_comm
  exact (e A (Tb x d hl tbl) _).trans (List.Perm.append_left _ (e A (Ln ln ls) σ))
theorem perm_in {p : Addr × O} {A : Sto} {x d hl ln : Addr} {tbl ls : List Row} {σ : Sto} : (p :: (A ++ LT x d hl tbl ln ls σ)).Perm (A ++ LT x d hl tbl ln ls (p :: σ)) := by
  have h : ∀ (σ : Sto), A ++ LT x d hl tbl ln ls σ = (A ++ (Tb x d hl tbl ++ Ln ln ls)) ++ σ := fun σ => by unfold LT; simp only [List.append_assoc]
  rw [h, h]
  exact List.perm_middle.symm
theorem mem_in {p : Addr × O} {A : Sto} {x d hl ln : Addr} {tbl ls : List Row} {σ : Sto} (h : p ∈ σ) : p ∈ A ++ LT x d hl tbl ln ls σ :=
  List.mem_append_right _ (List.mem_append_right _ (List.mem_append_right _ h))
theorem sub_in {A : Sto} {x d hl ln : Addr} {tbl ls : List Row} {σ σ' : Sto} (h : σ.Sublist σ') : (A ++ LT x d hl tbl ln ls σ).Sublist (A ++ LT x d hl tbl ln ls σ') :=
  .append_left (.append_left (.append_left h _) _) _
theorem ne_int (k m : Nat) : (((k : Nat) : Int) != ((m : Nat) : Int)) = !Nat.beq k m := by
  unfold bne
  congr 1
  rw [Bool.eq_iff_iff, beq_iff_eq, Nat.beq_eq]; omega
section
variable {w : World} {S0 : Shared} {Kf : Frag} {c : Cx} {m : Ms} {σ : Sto} {K : V → Sto → Prop} {mg mb : Str → Option Value} {e : Nat → Nat}
theorem lay' (he : Enc e) (H : Hc S0 Kf mg mb) (hroom : c.A.depth + 3 < recursionLimit) {A : Sto} {x d hl ln : Addr} {tbl ls : List Row} {s : St} {en more less : List Nat} {k : St → Bool} (r1 : Reps e tbl s.1) (r2 : Reps e ls s.2) (hk : layK s en more less k = true)
    (h : ∀ tbl' ls' s', Reps e tbl' s'.1 → Reps e ls' s'.2 → k s' = true → K .none (A ++ LT x d hl tbl' ln ls' σ)) : Cal pw w S0 c m (A ++ LT x d hl tbl ln ls σ) (.ref aLay) [.ref x, .ref ln, .str (te e en), .str (te e more), .str (te e less)] [] K :=
  Cal.perm perm_lt (Cal.post (lay he H hroom r1 r2 hk fun tbl' ls' s' a b k => ⟨_, perm_lt.symm, h tbl' ls' s' a b k⟩))
end
section
variable {w : World} {S0 : Shared} {Kf : Frag} {c : Cx} {m : Ms} {σ : Sto} {K : Fl → Ms → Sto → Prop} {mg mb : Str → Option Value} {e : Nat → Nat}
variable {pm cd : Value} {L : Addr} (FO : FnOk S0 aLaw (mkFd stLaw "law" pm cd .none .none) (bodyOf stLaw) (locals (scopeOf stLaw)))
noncomputable def s1F (ws : List (List Nat)) (i j : Nat) (s : St) (c : St → Bool) : Bool :=
  bif !Nat.beq i j && eqL ((wsAt ws j).take (wsAt ws i).length) (wsAt ws i) then layK s ((wsAt ws j).drop (wsAt ws i).length) (typA ws j) (typA ws i) c else c s
theorem stage1_eq (ws : List (List Nat)) (k : St → Bool) : stage1K ws k = forK (fun i s c => forK (s1F ws i) [0, 1, 2] s c) [0, 1, 2] ([], []) k := rfl
/-- the body of the inner loop -/
noncomputable def s1B : List Stmt := bodyFor ((bodyFor ((lawB 15).headD (.Pass ⟨0, 0, 0, 0⟩))).headD (.Pass ⟨0, 0, 0, 0⟩))
theorem s1_in (he : Enc e) (H : Hc S0 Kf mg mb) (hroom : c.A.depth + 4 < recursionLimit) {tot par oct : Option V} {wo ma ty x d hl ln : Addr} {ws : List (List Nat)} (hok : okW ws = true) (hwl : ws.length = 3) {p1 p2 : Addr × O} {tbl ls : List Row} {s : St} {i j : Nat} (hi : i < 3) (hj : j < 3) {k : St → Bool}
    (r1 : Reps e tbl s.1) (r2 : Reps e ls s.2) (hk : s1F ws i j s k = true)
    (h : ∀ tbl' ls' s', Reps e tbl' s'.1 → Reps e ls' s'.2 → k s' = true → ∀ m', Wk m' (A01 e L tot par oct wo ma ty ws ++ LT x d hl tbl' ln ls' σ) [(8, .int (i : Int)), (9, .ref ty), (10, .ref x), (11, .ref ln)] (A01 e L tot par oct wo ma ty ws ++ LT x d hl tbl' ln ls' σ) →
      K .next m' (A01 e L tot par oct wo ma ty ws ++ LT x d hl tbl' ln ls' σ)) :
    Ex pw w S0 (((lawC c m L FO).push p1).push p2) s1B [(12, .int (j : Int)), (8, .int (i : Int)), (9, .ref ty), (10, .ref x), (11, .ref ln)] (A01 e L tot par oct wo ma ty ws ++ LT x d hl tbl ln ls σ) K := by
  unfold s1F at hk
  have hli := okW_len hok hwl hi
  have hlj := okW_len hok hwl hj
  -- if k != m and words[m][:len(words[k])] == words[k]:
  refine ex_if ?_
  refine Et.mono (K := fun b σ' => b = (!Nat.beq i j && eqL ((wsAt ws j).take (wsAt ws i).length) (wsAt ws i)) ∧ σ' = A01 e L tot par oct wo ma ty ws ++ LT x d hl tbl ln ls σ) ?_ ?_
  · refine et_and ?_
    refine et_cmp ?_ -- k != m
    refine ev_loc (i := 8) rfl rfl rfl rfl ?_ -- k
    refine ev_loc (i := 12) rfl rfl rfl rfl ?_ -- m
    refine cmp_ne ?_
    rw [ne_int]
    refine tru_bool ?_
    refine ⟨fun h1 => ?_, fun h1 => ⟨by rw [h1]; rfl, rfl⟩⟩
    refine et_and ?_
    refine et_cmp ?_ -- words[m][:len(words[k])] == words[k]
    refine ev_sslice ?_
    refine ev_sub ?_
    refine ev_cell (Or.inl rfl) rfl rfl rfl (List.mem_of_getElem? (i := 1) rfl) ?_ -- words
    refine ev_loc (i := 12) rfl rfl rfl rfl ?_ -- m
    refine sub_list (xs := teV e ws) (x := .str (te e (wsAt ws j))) (List.mem_of_getElem? (i := 7) rfl) (by rw [teV_len]; omega) (by omega) (by rw [teV_len]; omega) (by rw [ix_nat]; exact ws_get hwl hj) ?_
    refine pt_none ?_
    refine pt_some ?_
    refine ev_call ?_ -- len(words[k])
    refine ev_blt H.H.B rfl rfl (by decide) H.H.no_len boot_len ?_
    refine ⟨kpr_blt, ?_⟩
    refine evs_cons ?_
    refine ev_sub ?_
    refine ev_cell (Or.inl rfl) rfl rfl rfl (List.mem_of_getElem? (i := 1) rfl) ?_ -- words
    refine ev_loc (i := 8) rfl rfl rfl rfl ?_ -- k
    refine sub_list (xs := teV e ws) (x := .str (te e (wsAt ws i))) (List.mem_of_getElem? (i := 7) rfl) (by rw [teV_len]; omega) (by omega) (by rw [teV_len]; omega) (by rw [ix_nat]; exact ws_get hwl hi) ?_
    refine evs_nil ?_
    refine cal_len_str (by rw [len_te]; omega) ?_
    rw [len_te]
    refine .inl ⟨_, rfl, ?_⟩
    refine ⟨_, rfl, sz (by rw [len_te]; omega), ?_⟩
    rw [slice_te, cutT]
    refine ev_sub ?_
    refine ev_cell (Or.inl rfl) rfl rfl rfl (List.mem_of_getElem? (i := 1) rfl) ?_ -- words
    refine ev_loc (i := 8) rfl rfl rfl rfl ?_ -- k
    refine sub_list (xs := teV e ws) (x := .str (te e (wsAt ws i))) (List.mem_of_getElem? (i := 7) rfl) (by rw [teV_len]; omega) (by omega) (by rw [teV_len]; omega) (by rw [ix_nat]; exact ws_get hwl hi) ?_
    refine cmp_seq ?_
    rw [te_beq he]
    refine tru_bool ?_
    refine ⟨fun h2 => ?_, fun h2 => ⟨by rw [h1, h2]; rfl, rfl⟩⟩
    refine et_and_nil ?_
    exact ⟨by rw [h1, h2]; rfl, rfl⟩
  rintro b _ ⟨rfl, rfl⟩
  refine ⟨fun ht => ?_, fun hf => ?_⟩
  · rw [ht, cond_true] at hk
    -- _law_lay(table, line, words[m][len(words[k]):], typed[m], typed[k])
    refine ex_expr ?_
    refine ev_call ?_
    refine ev_glob (V0 := .ref aLay) H.H.B rfl rfl H.H.g_law_lay rfl ?_
    refine ⟨H.H.f_lay.kpr, ?_⟩
    refine evs_cons ?_
    refine ev_loc (i := 10) rfl rfl rfl rfl ?_ -- table
    refine evs_cons ?_
    refine ev_loc (i := 11) rfl rfl rfl rfl ?_ -- line
    refine evs_cons ?_
    refine ev_sslice ?_
    refine ev_sub ?_
    refine ev_cell (Or.inl rfl) rfl rfl rfl (List.mem_of_getElem? (i := 1) rfl) ?_ -- words
    refine ev_loc (i := 12) rfl rfl rfl rfl ?_ -- m
    refine sub_list (xs := teV e ws) (x := .str (te e (wsAt ws j))) (List.mem_of_getElem? (i := 7) rfl) (by rw [teV_len]; omega) (by omega) (by rw [teV_len]; omega) (by rw [ix_nat]; exact ws_get hwl hj) ?_
    refine pt_some ?_
    refine ev_call ?_ -- len(words[k])
    refine ev_blt H.H.B rfl rfl (by decide) H.H.no_len boot_len ?_
    refine ⟨kpr_blt, ?_⟩
    refine evs_cons ?_
    refine ev_sub ?_
    refine ev_cell (Or.inl rfl) rfl rfl rfl (List.mem_of_getElem? (i := 1) rfl) ?_ -- words
    refine ev_loc (i := 8) rfl rfl rfl rfl ?_ -- k
    refine sub_list (xs := teV e ws) (x := .str (te e (wsAt ws i))) (List.mem_of_getElem? (i := 7) rfl) (by rw [teV_len]; omega) (by omega) (by rw [teV_len]; omega) (by rw [ix_nat]; exact ws_get hwl hi) ?_
    refine evs_nil ?_
    refine cal_len_str (by rw [len_te]; omega) ?_
    rw [len_te]
    refine .inl ⟨_, rfl, ?_⟩
    refine pt_none ?_
    refine ⟨_, rfl, sz (by rw [len_te]; omega), ?_⟩
    rw [slice_te, cutF]
    refine evs_cons ?_
    refine ev_sub ?_
    refine ev_loc (i := 9) rfl rfl rfl rfl ?_ -- typed
    refine ev_loc (i := 12) rfl rfl rfl rfl ?_ -- m
    refine sub_list (xs := teV e (typ3 ws)) (x := .str (te e (typA ws j))) (List.mem_of_getElem? (i := 5) rfl) (by rw [teV_len]; show -((3 : Nat) : Int) ≤ _; omega) (by omega) (by rw [teV_len]; show (3 : Nat) < _; decide) (by rw [ix_nat]; exact typ_get hj) ?_
    refine evs_cons ?_
    refine ev_sub ?_
    refine ev_loc (i := 9) rfl rfl rfl rfl ?_ -- typed
    refine ev_loc (i := 8) rfl rfl rfl rfl ?_ -- k
    refine sub_list (xs := teV e (typ3 ws)) (x := .str (te e (typA ws i))) (List.mem_of_getElem? (i := 5) rfl) (by rw [teV_len]; show -((3 : Nat) : Int) ≤ _; omega) (by omega) (by rw [teV_len]; show (3 : Nat) < _; decide) (by rw [ix_nat]; exact typ_get hi) ?_
    refine evs_nil ?_
    refine lay' he H (by show c.A.depth + 1 + 3 < _; omega) r1 r2 hk fun tbl' ls' s' r1' r2' hk' => ?_
    exact ex_nil (ex_nil (h tbl' ls' s' r1' r2' hk' _ (.of ⟨rfl, rfl, rfl, rfl, trivial⟩ (.refl _))))
  · rw [hf, cond_false] at hk
    exact ex_nil (ex_nil (h tbl ls s r1 r2 hk _ (.of ⟨rfl, rfl, rfl, rfl, trivial⟩ (.refl _))))
end
end Mine
end

section
set_option maxRecDepth 100000
namespace Mine
theorem nV_nA (n : Nat) : nV n = nA (List.range n) := rfl
theorem r3 : nV 3 = nA [0, 1, 2] := rfl
section
variable {w : World} {S0 : Shared} {Kf : Frag} {c : Cx} {m : Ms} {σ : Sto} {K : Fl → Ms → Sto → Prop} {mg mb : Str → Option Value} {e : Nat → Nat}
variable {pm cd : Value} {L : Addr} (FO : FnOk S0 aLaw (mkFd stLaw "law" pm cd .none .none) (bodyOf stLaw) (locals (scopeOf stLaw)))
/-- the body of the outer loop -/
noncomputable def s1O : List Stmt := bodyFor ((lawB 15).headD (.Pass ⟨0, 0, 0, 0⟩))
theorem s1_out (he : Enc e) (H : Hc S0 Kf mg mb) (hroom : c.A.depth + 4 < recursionLimit) {tot par oct : Option V} {wo ma ty x d hl ln : Addr} {ws : List (List Nat)} (hok : okW ws = true) (hwl : ws.length = 3) {p1 : Addr × O} {tbl ls : List Row} {s : St} {i : Nat} (hi : i < 3) {k : St → Bool}
    (r1 : Reps e tbl s.1) (r2 : Reps e ls s.2) (hk : forK (s1F ws i) [0, 1, 2] s k = true)
    (h : ∀ tbl' ls' s', Reps e tbl' s'.1 → Reps e ls' s'.2 → k s' = true → ∀ m' σ', Wk m' σ' [(9, .ref ty), (10, .ref x), (11, .ref ln)] (A01 e L tot par oct wo ma ty ws ++ LT x d hl tbl' ln ls' σ) → K .next m' σ') :
    Ex pw w S0 ((lawC c m L FO).push p1) s1O [(8, .int (i : Int)), (9, .ref ty), (10, .ref x), (11, .ref ln)] (A01 e L tot par oct wo ma ty ws ++ LT x d hl tbl ln ls σ) K := by
  -- for m in range(3):
  refine ex_for ?_
  refine ev_call ?_ -- range(3)
  refine ev_blt H.H.B rfl rfl (by decide) H.H.no_range boot_range ?_
  refine ⟨kpr_type, ?_⟩
  refine evs_cons ?_
  refine ev_int ?_ -- 3
  refine evs_nil ?_
  refine cal_range1 fun rr => ?_
  refine ⟨_, _, itb_range (a := 0) (b := 3) (c := 1) (n := 3) (by decide) (by decide), ?_⟩
  rw [range_nV, r3]
  refine Turns.perm (mem_st (.head _)) perm_in ?_
  refine turns_gen (fun xs m0 T0 => ∃ (js : List Nat) (tbl' ls' : List Row) (s' : St), xs = nA js ∧ (∀ j ∈ js, j < 3) ∧ Reps e tbl' s'.1 ∧ Reps e ls' s'.2 ∧ forK (s1F ws i) js s' k = true ∧
      Wk m0 T0 [(8, .int (i : Int)), (9, .ref ty), (10, .ref x), (11, .ref ln)] (A01 e L tot par oct wo ma ty ws ++ LT x d hl tbl' ln ls' ((rr, .rng 0 3 1) :: σ))) ?_ ?_ ?_ _ _ _ ?_
  · rintro xs m0 T0 ⟨js, tbl', ls', s', -, -, -, -, -, hw⟩
    exact mem_st (hw.st.subset (mem_in (.head _)))
  · rintro y xs m0 T0 ⟨js, tbl', ls', s', hx, hj, r1', r2', hk', hw⟩ p
    obtain ⟨j, js', rfl, rfl, rfl⟩ := nA_cons hx
    refine asg_name (sto_loc (i := 12) rfl rfl ?_)
    refine Ex.wk (wk_cons hw 12 _) ?_
    refine s1_in FO he H hroom hok hwl hi (hj j (.head _)) (k := fun s => forK (s1F ws i) js' s k) r1' r2' hk' fun tbl2 ls2 s2 r12 r22 hk2 m' hw' => ?_
    exact ⟨_, _, Wk.rfl, js', tbl2, ls2, s2, rfl, fun j' h' => hj j' (.tail _ h'), r12, r22, hk2, hw'⟩
  · rintro m0 T0 ⟨js, tbl', ls', s', hx, hj, r1', r2', hk', hw⟩
    obtain rfl := nA_nil hx
    refine ex_nil (h tbl' ls' s' r1' r2' hk' _ _ ⟨fun i' v hv => hw.ms i' v ?_, (sub_in (.cons _ (.refl _))).trans hw.st⟩)
    exact SubMs.of (m' := [(9, .ref ty), (10, .ref x), (11, .ref ln)]) (m := [(8, .int (i : Int)), (9, .ref ty), (10, .ref x), (11, .ref ln)]) ⟨rfl, rfl, rfl, trivial⟩ i' v hv
  · exact ⟨[0, 1, 2], tbl, ls, s, rfl, by decide, r1, r2, hk, .of ⟨rfl, rfl, rfl, rfl, trivial⟩ (.refl _)⟩
theorem lawS1 (he : Enc e) (H : Hc S0 Kf mg mb) (hroom : c.A.depth + 4 < recursionLimit) {tot par oct : Option V} {wo ma ty x d hl ln : Addr} {ws : List (List Nat)} (hok : okW ws = true) (hwl : ws.length = 3) {k : St → Bool}
    (hk : stage1K ws k = true)
    (h : ∀ tbl ls s, Reps e tbl s.1 → Reps e ls s.2 → k s = true → Ex pw w S0 (lawC c m L FO) (lawB 16) [(9, .ref ty), (10, .ref x), (11, .ref ln)] (A01 e L tot par oct wo ma ty ws ++ LT x d hl tbl ln ls σ) K) :
    Ex pw w S0 (lawC c m L FO) (lawB 15) [(9, .ref ty), (10, .ref x), (11, .ref ln)] (A01 e L tot par oct wo ma ty ws ++ LT x d hl [] ln [] σ) K := by
  rw [stage1_eq] at hk
  -- for k in range(3):
  refine ex_for ?_
  refine ev_call ?_ -- range(3)
  refine ev_blt H.H.B rfl rfl (by decide) H.H.no_range boot_range ?_
  refine ⟨kpr_type, ?_⟩
  refine evs_cons ?_
  refine ev_int ?_ -- 3
  refine evs_nil ?_
  refine cal_range1 fun rr => ?_
  refine ⟨_, _, itb_range (a := 0) (b := 3) (c := 1) (n := 3) (by decide) (by decide), ?_⟩
  rw [range_nV, r3]
  refine Turns.perm (mem_st (.head _)) perm_in ?_
  refine turns_gen (fun xs m0 T0 => ∃ (is : List Nat) (tbl' ls' : List Row) (s' : St), xs = nA is ∧ (∀ i ∈ is, i < 3) ∧ Reps e tbl' s'.1 ∧ Reps e ls' s'.2 ∧ forK (fun i s c => forK (s1F ws i) [0, 1, 2] s c) is s' k = true ∧
      Wk m0 T0 [(9, .ref ty), (10, .ref x), (11, .ref ln)] (A01 e L tot par oct wo ma ty ws ++ LT x d hl tbl' ln ls' ((rr, .rng 0 3 1) :: σ))) ?_ ?_ ?_ _ _ _ ?_
  · rintro xs m0 T0 ⟨is, tbl', ls', s', -, -, -, -, -, hw⟩
    exact mem_st (hw.st.subset (mem_in (.head _)))
  · rintro y xs m0 T0 ⟨is, tbl', ls', s', hx, hj, r1', r2', hk', hw⟩ p
    obtain ⟨i, is', rfl, rfl, rfl⟩ := nA_cons hx
    refine asg_name (sto_loc (i := 8) rfl rfl ?_)
    refine Ex.wk (wk_cons hw 8 _) ?_
    refine s1_out FO he H hroom hok hwl (hj i (.head _)) (k := fun s => forK (fun i s c => forK (s1F ws i) [0, 1, 2] s c) is' s k) r1' r2' hk' fun tbl2 ls2 s2 r12 r22 hk2 m' σ' hw' => ?_
    exact ⟨_, _, Wk.rfl, is', tbl2, ls2, s2, rfl, fun j' h' => hj j' (.tail _ h'), r12, r22, hk2, hw'⟩
  · rintro m0 T0 ⟨is, tbl', ls', s', hx, hj, r1', r2', hk', hw⟩
    obtain rfl := nA_nil hx
    exact Ex.wk ⟨hw.ms, (sub_in (.cons _ (.refl _))).trans hw.st⟩ (h tbl' ls' s' r1' r2' hk')
  · exact ⟨[0, 1, 2], [], [], ([], []), rfl, by decide, rfl, rfl, hk, .of ⟨rfl, rfl, rfl, trivial⟩ (.refl _)⟩
end
end Mine
end

section
set_option maxRecDepth 100000
namespace Mine
theorem nc {K : Fl → Ms → Sto → Prop} : True := trivial
theorem perm_met {A : Sto} {x d hl ln me tp : Addr} {tbl ls mls : List Row} {a b : List Nat} {σ : Sto} :
    ((tp, O.tuple [.str (tx a), .str (tx b)]) :: (A ++ (Tb x d hl tbl ++ (Ln ln ls ++ ((me, O.list (mls.map (fun t => V.ref t.1) ++ [V.ref tp])) :: (mls.map rowO ++ σ)))))).Perm (A ++ LT x d hl tbl ln ls (Ln me (mls ++ [(tp, a, b)]) ++ σ)) := by
  refine (perm_in (A := A) (x := x) (d := d) (hl := hl) (tbl := tbl) (ln := ln) (ls := ls)).trans ?_
  exact List.Perm.append_left _ (List.Perm.append_left _ (List.Perm.append_left _ Ln_app))
theorem typ_len {ws : List (List Nat)} (h : okW ws = true) {k : Nat} (hl : ws.length = 3) (hk : k < 3) : (typA ws k).length < 6 := by
  have := okW_len h hl hk
  unfold typA
  rw [List.length_append]; simp; omega
section
variable {w : World} {S0 : Shared} {Kf : Frag} {c : Cx} {m : Ms} {σ : Sto} {K : Fl → Ms → Sto → Prop} {mg mb : Str → Option Value} {e : Nat → Nat}
variable {pm cd : Value} {L : Addr} (FO : FnOk S0 aLaw (mkFd stLaw "law" pm cd .none .none) (bodyOf stLaw) (locals (scopeOf stLaw)))
/-- the while's body; the body of the loop in it -/
noncomputable def s2W : List Stmt := bodyWhile ((lawB 18).headD (.Pass ⟨0, 0, 0, 0⟩))
noncomputable def s2B : List Stmt := bodyFor ((s2W.drop 3).headD (.Pass ⟨0, 0, 0, 0⟩))
theorem s2_in (he : Enc e) (H : Hc S0 Kf mg mb) (hroom : c.A.depth + 4 < recursionLimit) {tot par oct : Option V} {wo ma ty x d hl ln me : Addr} {ws : List (List Nat)} (hok : okW ws = true) (hwl : ws.length = 3) {p1 p2 : Addr × O} {tbl ls mls : List Row} {r : St × List Pr} {sp i : Nat} {en more less : List Nat} (hi : i < 3)
    (hen : en.length < 50) (hmo : more.length < 100) (hle : less.length < 100) (hml : mls.length < 1000) {k : St × List Pr → Bool}
    (r1 : Reps e tbl r.1.1) (r2 : Reps e ls r.1.2) (r3 : Reps e mls r.2) (hk : step2K ws en more less i r k = true)
    (h : ∀ tbl' ls' mls' r', Reps e tbl' r'.1.1 → Reps e ls' r'.1.2 → Reps e mls' r'.2 → mls'.length ≤ mls.length + 1 → k r' = true → ∀ m', Wk m' (A01 e L tot par oct wo ma ty ws ++ LT x d hl tbl' ln ls' (Ln me mls' ++ σ)) [(9, .ref ty), (10, .ref x), (11, .ref ln), (13, .ref me), (14, .int (sp : Int)), (15, .str (te e en)), (16, .str (te e more)), (17, .str (te e less))] (A01 e L tot par oct wo ma ty ws ++ LT x d hl tbl' ln ls' (Ln me mls' ++ σ)) →
      K .next m' (A01 e L tot par oct wo ma ty ws ++ LT x d hl tbl' ln ls' (Ln me mls' ++ σ))) :
    Ex pw w S0 ((lawC c m L FO).push p1) s2B [(8, .int (i : Int)), (9, .ref ty), (10, .ref x), (11, .ref ln), (13, .ref me), (14, .int (sp : Int)), (15, .str (te e en)), (16, .str (te e more)), (17, .str (te e less))] (A01 e L tot par oct wo ma ty ws ++ LT x d hl tbl ln ls (Ln me mls ++ σ)) K := by
  unfold step2K at hk
  have hli := okW_len hok hwl hi
  have hti := typ_len hok hwl hi
  -- if words[k] == end:
  refine ex_if ?_
  refine et_cmp ?_ -- words[k] == end
  refine ev_sub ?_
  refine ev_cell (Or.inl rfl) rfl rfl rfl (List.mem_of_getElem? (i := 1) rfl) ?_ -- words
  refine ev_loc (i := 8) rfl rfl rfl rfl ?_ -- k
  refine sub_list (xs := teV e ws) (x := .str (te e (wsAt ws i))) (List.mem_of_getElem? (i := 7) rfl) (by rw [teV_len]; omega) (by omega) (by rw [teV_len]; omega) (by rw [ix_nat]; exact ws_get hwl hi) ?_
  refine ev_loc (i := 15) rfl rfl rfl rfl ?_ -- end
  refine cmp_seq ?_
  rw [te_beq he]
  refine tru_bool ?_
  refine ⟨fun ht => ?_, fun hf => ?_⟩
  · rw [ht, cond_true] at hk
    -- met.append((more, less + typed[k]))
    refine ex_expr ?_
    refine ev_meth ?_
    refine ev_loc (i := 13) rfl rfl rfl rfl ?_ -- met
    refine mth_append (mem_st (mem_in (.head _))) ?_
    refine ⟨kpr_blt, ?_⟩
    refine evs_cons ?_
    refine ev_tuple ?_
    refine evs_cons ?_
    refine ev_loc (i := 16) rfl rfl rfl rfl ?_ -- more
    refine evs_cons ?_
    refine ev_bin ?_
    refine ev_loc (i := 17) rfl rfl rfl rfl ?_ -- less
    refine ev_sub ?_
    refine ev_loc (i := 9) rfl rfl rfl rfl ?_ -- typed
    refine ev_loc (i := 8) rfl rfl rfl rfl ?_ -- k
    refine sub_list (xs := teV e (typ3 ws)) (x := .str (te e (typA ws i))) (List.mem_of_getElem? (i := 5) rfl) (by rw [teV_len]; show -((3 : Nat) : Int) ≤ _; omega) (by omega) (by rw [teV_len]; show (3 : Nat) < _; decide) (by rw [ix_nat]; exact typ_get hi) ?_
    refine bin_cat_te (by omega) ?_ -- less + typed[k]
    refine evs_nil ?_
    refine ⟨sz (by simp), fun tp => ?_⟩
    refine evs_nil ?_
    refine cal_append (.tail (Upd.app (Upd.app (Upd.app .head (Ln ln ls)) (Tb x d hl tbl)) (A01 e L tot par oct wo ma ty ws))) (sz (by rw [List.length_map]; omega)) ?_
    refine Ex.perm (perm_met (a := more.map e) (b := (less ++ typA ws i).map e)) ?_
    refine ex_nil (ex_nil (h tbl ls _ (r.1, r.2 ++ [(more, less ++ typA ws i)]) r1 r2 (r3.app tp (more, less ++ typA ws i)) (by simp) hk _ (.of ⟨rfl, rfl, rfl, rfl, rfl, rfl, rfl, rfl, trivial⟩ (.refl _))))
  · rw [hf, cond_false] at hk
    -- if words[k][:len(end)] == end:
    refine ex_if ?_
    refine et_cmp ?_
    refine ev_sslice ?_
    refine ev_sub ?_
    refine ev_cell (Or.inl rfl) rfl rfl rfl (List.mem_of_getElem? (i := 1) rfl) ?_ -- words
    refine ev_loc (i := 8) rfl rfl rfl rfl ?_ -- k
    refine sub_list (xs := teV e ws) (x := .str (te e (wsAt ws i))) (List.mem_of_getElem? (i := 7) rfl) (by rw [teV_len]; omega) (by omega) (by rw [teV_len]; omega) (by rw [ix_nat]; exact ws_get hwl hi) ?_
    refine pt_none ?_
    refine pt_some ?_
    refine ev_call ?_ -- len(end)
    refine ev_blt H.H.B rfl rfl (by decide) H.H.no_len boot_len ?_
    refine ⟨kpr_blt, ?_⟩
    refine evs_cons ?_
    refine ev_loc (i := 15) rfl rfl rfl rfl ?_ -- end
    refine evs_nil ?_
    refine cal_len_str (by rw [len_te]; omega) ?_
    rw [len_te]
    refine .inl ⟨_, rfl, ?_⟩
    refine ⟨_, rfl, sz (by rw [len_te]; omega), ?_⟩
    rw [slice_te, cutT]
    refine ev_loc (i := 15) rfl rfl rfl rfl ?_ -- end
    refine cmp_seq ?_
    rw [te_beq he]
    refine tru_bool ?_
    refine ⟨fun ht => ?_, fun hf => ?_⟩
    · rw [ht, cond_true] at hk
      -- _law_lay(table, line, words[k][len(end):], less + typed[k], more)
      refine ex_expr ?_
      refine ev_call ?_
      refine ev_glob (V0 := .ref aLay) H.H.B rfl rfl H.H.g_law_lay rfl ?_
      refine ⟨H.H.f_lay.kpr, ?_⟩
      refine evs_cons ?_
      refine ev_loc (i := 10) rfl rfl rfl rfl ?_ -- table
      refine evs_cons ?_
      refine ev_loc (i := 11) rfl rfl rfl rfl ?_ -- line
      refine evs_cons ?_
      refine ev_sslice ?_
      refine ev_sub ?_
      refine ev_cell (Or.inl rfl) rfl rfl rfl (List.mem_of_getElem? (i := 1) rfl) ?_ -- words
      refine ev_loc (i := 8) rfl rfl rfl rfl ?_ -- k
      refine sub_list (xs := teV e ws) (x := .str (te e (wsAt ws i))) (List.mem_of_getElem? (i := 7) rfl) (by rw [teV_len]; omega) (by omega) (by rw [teV_len]; omega) (by rw [ix_nat]; exact ws_get hwl hi) ?_
      refine pt_some ?_
      refine ev_call ?_ -- len(end)
      refine ev_blt H.H.B rfl rfl (by decide) H.H.no_len boot_len ?_
      refine ⟨kpr_blt, ?_⟩
      refine evs_cons ?_
      refine ev_loc (i := 15) rfl rfl rfl rfl ?_ -- end
      refine evs_nil ?_
      refine cal_len_str (by rw [len_te]; omega) ?_
      rw [len_te]
      refine .inl ⟨_, rfl, ?_⟩
      refine pt_none ?_
      refine ⟨_, rfl, sz (by rw [len_te]; omega), ?_⟩
      rw [slice_te, cutF]
      refine evs_cons ?_
      refine ev_bin ?_
      refine ev_loc (i := 17) rfl rfl rfl rfl ?_ -- less
      refine ev_sub ?_
      refine ev_loc (i := 9) rfl rfl rfl rfl ?_ -- typed
      refine ev_loc (i := 8) rfl rfl rfl rfl ?_ -- k
      refine sub_list (xs := teV e (typ3 ws)) (x := .str (te e (typA ws i))) (List.mem_of_getElem? (i := 5) rfl) (by rw [teV_len]; show -((3 : Nat) : Int) ≤ _; omega) (by omega) (by rw [teV_len]; show (3 : Nat) < _; decide) (by rw [ix_nat]; exact typ_get hi) ?_
      refine bin_cat_te (by omega) ?_ -- less + typed[k]
      refine evs_cons ?_
      refine ev_loc (i := 16) rfl rfl rfl rfl ?_ -- more
      refine evs_nil ?_
      refine lay' he H (by show c.A.depth + 1 + 3 < _; omega) r1 r2 hk fun tbl' ls' s' r1' r2' hk' => ?_
      exact ex_nil (ex_nil (ex_nil (h tbl' ls' mls (s', r.2) r1' r2' r3 (by omega) hk' _ (.of ⟨rfl, rfl, rfl, rfl, rfl, rfl, rfl, rfl, trivial⟩ (.refl _)))))
    · rw [hf, cond_false] at hk
      -- if end[:len(words[k])] == words[k]:
      refine ex_if ?_
      refine et_cmp ?_
      refine ev_sslice ?_
      refine ev_loc (i := 15) rfl rfl rfl rfl ?_ -- end
      refine pt_none ?_
      refine pt_some ?_
      refine ev_call ?_ -- len(words[k])
      refine ev_blt H.H.B rfl rfl (by decide) H.H.no_len boot_len ?_
      refine ⟨kpr_blt, ?_⟩
      refine evs_cons ?_
      refine ev_sub ?_
      refine ev_cell (Or.inl rfl) rfl rfl rfl (List.mem_of_getElem? (i := 1) rfl) ?_ -- words
      refine ev_loc (i := 8) rfl rfl rfl rfl ?_ -- k
      refine sub_list (xs := teV e ws) (x := .str (te e (wsAt ws i))) (List.mem_of_getElem? (i := 7) rfl) (by rw [teV_len]; omega) (by omega) (by rw [teV_len]; omega) (by rw [ix_nat]; exact ws_get hwl hi) ?_
      refine evs_nil ?_
      refine cal_len_str (by rw [len_te]; omega) ?_
      rw [len_te]
      refine .inl ⟨_, rfl, ?_⟩
      refine ⟨_, rfl, sz (by rw [len_te]; omega), ?_⟩
      rw [slice_te, cutT]
      refine ev_sub ?_
      refine ev_cell (Or.inl rfl) rfl rfl rfl (List.mem_of_getElem? (i := 1) rfl) ?_ -- words
      refine ev_loc (i := 8) rfl rfl rfl rfl ?_ -- k
      refine sub_list (xs := teV e ws) (x := .str (te e (wsAt ws i))) (List.mem_of_getElem? (i := 7) rfl) (by rw [teV_len]; omega) (by omega) (by rw [teV_len]; omega) (by rw [ix_nat]; exact ws_get hwl hi) ?_
      refine cmp_seq ?_
      rw [te_beq he]
      refine tru_bool ?_
      refine ⟨fun ht => ?_, fun hf => ?_⟩
      · rw [ht, cond_true] at hk
        -- _law_lay(table, line, end[len(words[k]):], more, less + typed[k])
        refine ex_expr ?_
        refine ev_call ?_
        refine ev_glob (V0 := .ref aLay) H.H.B rfl rfl H.H.g_law_lay rfl ?_
        refine ⟨H.H.f_lay.kpr, ?_⟩
        refine evs_cons ?_
        refine ev_loc (i := 10) rfl rfl rfl rfl ?_ -- table
        refine evs_cons ?_
        refine ev_loc (i := 11) rfl rfl rfl rfl ?_ -- line
        refine evs_cons ?_
        refine ev_sslice ?_
        refine ev_loc (i := 15) rfl rfl rfl rfl ?_ -- end
        refine pt_some ?_
        refine ev_call ?_ -- len(words[k])
        refine ev_blt H.H.B rfl rfl (by decide) H.H.no_len boot_len ?_
        refine ⟨kpr_blt, ?_⟩
        refine evs_cons ?_
        refine ev_sub ?_
        refine ev_cell (Or.inl rfl) rfl rfl rfl (List.mem_of_getElem? (i := 1) rfl) ?_ -- words
        refine ev_loc (i := 8) rfl rfl rfl rfl ?_ -- k
        refine sub_list (xs := teV e ws) (x := .str (te e (wsAt ws i))) (List.mem_of_getElem? (i := 7) rfl) (by rw [teV_len]; omega) (by omega) (by rw [teV_len]; omega) (by rw [ix_nat]; exact ws_get hwl hi) ?_
        refine evs_nil ?_
        refine cal_len_str (by rw [len_te]; omega) ?_
        rw [len_te]
        refine .inl ⟨_, rfl, ?_⟩
        refine pt_none ?_
        refine ⟨_, rfl, sz (by rw [len_te]; omega), ?_⟩
        rw [slice_te, cutF]
        refine evs_cons ?_
        refine ev_loc (i := 16) rfl rfl rfl rfl ?_ -- more
        refine evs_cons ?_
        refine ev_bin ?_
        refine ev_loc (i := 17) rfl rfl rfl rfl ?_ -- less
        refine ev_sub ?_
        refine ev_loc (i := 9) rfl rfl rfl rfl ?_ -- typed
        refine ev_loc (i := 8) rfl rfl rfl rfl ?_ -- k
        refine sub_list (xs := teV e (typ3 ws)) (x := .str (te e (typA ws i))) (List.mem_of_getElem? (i := 5) rfl) (by rw [teV_len]; show -((3 : Nat) : Int) ≤ _; omega) (by omega) (by rw [teV_len]; show (3 : Nat) < _; decide) (by rw [ix_nat]; exact typ_get hi) ?_
        refine bin_cat_te (by omega) ?_ -- less + typed[k]
        refine evs_nil ?_
        refine lay' he H (by show c.A.depth + 1 + 3 < _; omega) r1 r2 hk fun tbl' ls' s' r1' r2' hk' => ?_
        exact ex_nil (ex_nil (ex_nil (ex_nil (h tbl' ls' mls (s', r.2) r1' r2' r3 (by omega) hk' _ (.of ⟨rfl, rfl, rfl, rfl, rfl, rfl, rfl, rfl, trivial⟩ (.refl _))))))
      · rw [hf, cond_false] at hk
        exact ex_nil (ex_nil (ex_nil (ex_nil (h tbl ls mls r r1 r2 r3 (by omega) hk _ (.of ⟨rfl, rfl, rfl, rfl, rfl, rfl, rfl, rfl, trivial⟩ (.refl _))))))
end
end Mine
end

section
set_option maxRecDepth 100000
namespace Mine
theorem spl_len {l : List Nat} (h : l.length < 100) : (splA l).1.length < 100 ∧ (splA l).2.length < 100 := by
  unfold splA
  have h1 := (List.takeWhile_sublist (fun c => !Nat.beq c 5) (l := l)).length_le
  have h2 := (List.dropWhile_sublist (fun c => !Nat.beq c 5) (l := l)).length_le
  refine ⟨?_, ?_⟩
  · show (l.takeWhile _).length < _; omega
  · show ((l.dropWhile _).drop 1).length < _
    rw [List.length_drop]; omega
section
variable {w : World} {S0 : Shared} {Kf : Frag} {c : Cx} {m : Ms} {σ : Sto} {K : Fl → Ms → Sto → Prop} {mg mb : Str → Option Value} {e : Nat → Nat}
variable {pm cd : Value} {L : Addr} (FO : FnOk S0 aLaw (mkFd stLaw "law" pm cd .none .none) (bodyOf stLaw) (locals (scopeOf stLaw)))
theorem s2_for (he : Enc e) (H : Hc S0 Kf mg mb) (hroom : c.A.depth + 4 < recursionLimit) {tot par oct : Option V} {wo ma ty x d hl ln me : Addr} {ws : List (List Nat)} (hok : okW ws = true) (hwl : ws.length = 3) {tbl ls mls : List Row} {r : St × List Pr} {sp : Nat} {en more less : List Nat}
    (hen : en.length < 50) (hmo : more.length < 100) (hle : less.length < 100) (hml : mls.length < 100) {k : St × List Pr → Bool}
    (r1 : Reps e tbl r.1.1) (r2 : Reps e ls r.1.2) (r3' : Reps e mls r.2) (hk : forK (step2K ws en more less) [0, 1, 2] r k = true)
    (h : ∀ tbl' ls' mls' r', Reps e tbl' r'.1.1 → Reps e ls' r'.1.2 → Reps e mls' r'.2 → k r' = true → ∀ m' σ', Wk m' σ' [(9, .ref ty), (10, .ref x), (11, .ref ln), (13, .ref me), (14, .int (sp : Int))] (A01 e L tot par oct wo ma ty ws ++ LT x d hl tbl' ln ls' (Ln me mls' ++ σ)) →
      K .next m' σ') :
    Ex pw w S0 (lawC c m L FO) (s2W.drop 3) [(9, .ref ty), (10, .ref x), (11, .ref ln), (13, .ref me), (14, .int (sp : Int)), (15, .str (te e en)), (16, .str (te e more)), (17, .str (te e less))] (A01 e L tot par oct wo ma ty ws ++ LT x d hl tbl ln ls (Ln me mls ++ σ)) K := by
  -- for k in range(3):
  refine ex_for ?_
  refine ev_call ?_ -- range(3)
  refine ev_blt H.H.B rfl rfl (by decide) H.H.no_range boot_range ?_
  refine ⟨kpr_type, ?_⟩
  refine evs_cons ?_
  refine ev_int ?_ -- 3
  refine evs_nil ?_
  refine cal_range1 fun rr => ?_
  refine ⟨_, _, itb_range (a := 0) (b := 3) (c := 1) (n := 3) (by decide) (by decide), ?_⟩
  rw [range_nV, r3]
  have hperm : ∀ {tbl ls mls : List Row}, ((rr, O.rng 0 3 1) :: (A01 e L tot par oct wo ma ty ws ++ LT x d hl tbl ln ls (Ln me mls ++ σ))).Perm (A01 e L tot par oct wo ma ty ws ++ LT x d hl tbl ln ls (Ln me mls ++ ((rr, O.rng 0 3 1) :: σ))) :=
    perm_in.trans (List.Perm.append_left _ (List.Perm.append_left _ (List.Perm.append_left _ List.perm_middle.symm)))
  have hsub : ∀ {tbl ls mls : List Row}, (A01 e L tot par oct wo ma ty ws ++ LT x d hl tbl ln ls (Ln me mls ++ σ)).Sublist (A01 e L tot par oct wo ma ty ws ++ LT x d hl tbl ln ls (Ln me mls ++ ((rr, O.rng 0 3 1) :: σ))) :=
    sub_in (.append_left (.cons _ (.refl _)) _)
  refine Turns.perm (mem_st (.head _)) hperm ?_
  refine turns_gen (fun xs m0 T0 => ∃ (is : List Nat) (tbl' ls' mls' : List Row) (r' : St × List Pr), xs = nA is ∧ (∀ i ∈ is, i < 3) ∧ mls'.length + is.length ≤ mls.length + 3 ∧ Reps e tbl' r'.1.1 ∧ Reps e ls' r'.1.2 ∧ Reps e mls' r'.2 ∧ forK (step2K ws en more less) is r' k = true ∧
      Wk m0 T0 [(9, .ref ty), (10, .ref x), (11, .ref ln), (13, .ref me), (14, .int (sp : Int)), (15, .str (te e en)), (16, .str (te e more)), (17, .str (te e less))] (A01 e L tot par oct wo ma ty ws ++ LT x d hl tbl' ln ls' (Ln me mls' ++ ((rr, .rng 0 3 1) :: σ)))) ?_ ?_ ?_ _ _ _ ?_
  · rintro xs m0 T0 ⟨is, tbl', ls', mls', r', -, -, -, -, -, -, -, hw⟩
    exact mem_st (hw.st.subset (mem_in (List.mem_append_right _ (.head _))))
  · rintro y xs m0 T0 ⟨is, tbl', ls', mls', r', hx, hj, hlen, r1', r2', r3', hk', hw⟩ p
    obtain ⟨i, is', rfl, rfl, rfl⟩ := nA_cons hx
    refine asg_name (sto_loc (i := 8) rfl rfl ?_)
    refine Ex.wk (wk_cons hw 8 _) ?_
    refine s2_in FO (p2 := p) he H hroom hok hwl (hj i (.head _)) hen hmo hle (by simp at hlen; omega) (k := fun r => forK (step2K ws en more less) is' r k) r1' r2' r3' hk' fun tbl2 ls2 mls2 r2' r12 r22 r32 hl2 hk2 m' hw' => ?_
    exact ⟨_, _, Wk.rfl, is', tbl2, ls2, mls2, r2', rfl, fun j' h' => hj j' (.tail _ h'), by simp at hlen; omega, r12, r22, r32, hk2, hw'⟩
  · rintro m0 T0 ⟨is, tbl', ls', mls', r', hx, hj, hlen, r1', r2', r3', hk', hw⟩
    obtain rfl := nA_nil hx
    refine ex_nil (h tbl' ls' mls' r' r1' r2' r3' hk' _ _ ⟨fun i' v hv => hw.ms i' v ?_, hsub.trans hw.st⟩)
    exact SubMs.of (m' := [(9, .ref ty), (10, .ref x), (11, .ref ln), (13, .ref me), (14, .int (sp : Int))]) (m := [(9, .ref ty), (10, .ref x), (11, .ref ln), (13, .ref me), (14, .int (sp : Int)), (15, .str (te e en)), (16, .str (te e more)), (17, .str (te e less))]) ⟨rfl, rfl, rfl, rfl, rfl, trivial⟩ i' v hv
  · exact ⟨[0, 1, 2], tbl, ls, mls, r, rfl, by decide, by simp, r1, r2, r3', hk, .of ⟨rfl, rfl, rfl, rfl, rfl, rfl, rfl, rfl, trivial⟩ (.refl _)⟩
theorem lawS2 (he : Enc e) (H : Hc S0 Kf mg mb) (hroom : c.A.depth + 4 < recursionLimit) {tot par oct : Option V} {wo ma ty x d hl ln : Addr} {ws : List (List Nat)} (hok : okW ws = true) (hwl : ws.length = 3) {n : Nat} {k : St × List Pr → Bool} {tbl ls : List Row} {s : St} (r1 : Reps e tbl s.1) (r2 : Reps e ls s.2)
    (hk : stage2K ws (n + 1) 0 (s, []) k = true)
    (h : ∀ tbl ls me mls r, Reps e tbl r.1.1 → Reps e ls r.1.2 → Reps e mls r.2 → mls.length < 100 → k r = true → Ex pw w S0 (lawC c m L FO) (lawB 19) [(9, .ref ty), (10, .ref x), (11, .ref ln), (13, .ref me)] (A01 e L tot par oct wo ma ty ws ++ LT x d hl tbl ln ls (Ln me mls ++ σ)) K) :
    Ex pw w S0 (lawC c m L FO) (lawB 16) [(9, .ref ty), (10, .ref x), (11, .ref ln)] (A01 e L tot par oct wo ma ty ws ++ LT x d hl tbl ln ls σ) K := by
  -- met = []
  refine ex_assign ?_
  refine ev_list ?_
  refine evs_nil ?_
  refine ⟨sz (by simp), fun me => ?_⟩
  refine sto_loc (i := 13) rfl rfl ?_ -- met
  refine Ex.perm (perm_in (p := (me, O.list []))) ?_
  -- spot = 0
  refine ex_assign ?_
  refine ev_int ?_ -- 0
  refine sto_loc (i := 14) rfl rfl ?_ -- spot
  -- while spot < min(len(line), 9):
  refine ex_whl (fun f m0 τ0 => ∃ (tbl ls mls : List Row) (r : St × List Pr) (sp : Nat), m0 = [(9, .ref ty), (10, .ref x), (11, .ref ln), (13, .ref me), (14, .int (sp : Int))] ∧ τ0 = A01 e L tot par oct wo ma ty ws ++ LT x d hl tbl ln ls (Ln me mls ++ σ) ∧ Reps e tbl r.1.1 ∧ Reps e ls r.1.2 ∧ Reps e mls r.2 ∧ stage2K ws f sp r k = true) (n + 1)
    (m0 := [(9, .ref ty), (10, .ref x), (11, .ref ln), (13, .ref me), (14, .int ((0 : Nat) : Int))]) (σ0 := A01 e L tot par oct wo ma ty ws ++ LT x d hl tbl ln ls (Ln me [] ++ σ)) (.of ⟨rfl, rfl, rfl, rfl, rfl, trivial⟩ (.refl _)) ⟨tbl, ls, [], (s, []), 0, rfl, rfl, r1, r2, rfl, hk⟩ ?_
  rintro f _ _ ⟨tbl, ls, mls, r, sp, rfl, rfl, r1, r2, r3', hk⟩
  cases f with
  | zero => cases hk
  | succ f =>
  unfold stage2K at hk
  rw [Bool.and_eq_true, Bool.and_eq_true] at hk
  obtain ⟨hll, hml, hk⟩ := hk
  have hll := nb_lt hll
  have hml := nb_lt hml
  have hlen := r2.len
  have hlenm := r3'.len
  refine et_cmp ?_ -- spot < min(len(line), 9)
  refine ev_loc (i := 14) rfl rfl rfl rfl ?_ -- spot
  refine ev_call ?_ -- min(len(line), 9)
  refine ev_blt H.H.B rfl rfl (by decide) H.H.no_min boot_min ?_
  refine ⟨kpr_blt, ?_⟩
  refine evs_cons ?_
  refine ev_call ?_ -- len(line)
  refine ev_blt H.H.B rfl rfl (by decide) H.H.no_len boot_len ?_
  refine ⟨kpr_blt, ?_⟩
  refine evs_cons ?_
  refine ev_loc (i := 11) rfl rfl rfl rfl ?_ -- line
  refine evs_nil ?_
  have hlm : (ln, O.list (ls.map fun t => V.ref t.1)) ∈ A01 e L tot par oct wo ma ty ws ++ LT x d hl tbl ln ls (Ln me mls ++ σ) := List.mem_append_right _ (List.mem_append_right _ (.head _))
  refine cal_len_list (xs := ls.map fun t => V.ref t.1) (mem_st hlm) (by rw [List.length_map]; omega) ?_
  rw [List.length_map, hlen]
  refine evs_cons ?_
  refine ev_int ?_ -- 9
  refine evs_nil ?_
  refine cal_min2 ?_
  rw [show min ((r.1.2.length : Nat) : Int) 9 = ((min r.1.2.length 9 : Nat) : Int) by omega]
  refine cmp_lt ?_
  refine tru_bool ?_
  refine ⟨fun h1 => ?_, fun h1 => ?_⟩
  · have h1 : sp < min r.1.2.length 9 := by have := of_decide_eq_true h1; omega
    rw [show Nat.blt sp (min r.1.2.length 9) = true from Nat.blt_eq.mpr h1, cond_true] at hk
    obtain ⟨⟨q1, q2⟩, hp⟩ : ∃ p, r.1.2[sp]? = some p := ⟨_, List.getElem?_eq_getElem (by omega)⟩
    rw [hp] at hk
    dsimp only at hk
    rw [Bool.and_eq_true, Bool.and_eq_true, Bool.and_eq_true] at hk
    obtain ⟨hq1, hT, hq2, hk⟩ := hk
    have hq2 := nb_lt hq2
    obtain ⟨t, ht⟩ := r2.at hp
    obtain ⟨t1, t2, t3⟩ := okT_ltr he r1 hT
    have htm : (t, O.tuple [.str (te e q1), .str (te e q2)]) ∈ A01 e L tot par oct wo ma ty ws ++ LT x d hl tbl ln ls (Ln me mls ++ σ) :=
      List.mem_append_right _ (List.mem_append_right _ (.tail _ (List.mem_append_left _ (List.mem_map_of_mem (f := rowO) (List.mem_of_getElem? ht)))))
    -- end = line[spot][0].lower()
    refine ex_assign ?_
    refine ev_meth ?_
    refine ev_sub ?_
    refine ev_sub ?_
    refine ev_loc (i := 11) rfl rfl rfl rfl ?_ -- line
    refine ev_loc (i := 14) rfl rfl rfl rfl ?_ -- spot
    refine sub_list (xs := ls.map fun t => V.ref t.1) (x := .ref t) hlm (by rw [List.length_map]; omega) (by omega) (by rw [List.length_map]; omega) (by rw [ix_nat, List.getElem?_map, ht]; rfl) ?_
    refine ev_int ?_ -- 0
    refine sub_tuple (i := 0) (xs := [.str (te e q1), .str (te e q2)]) htm (by decide) rfl ?_
    refine mth_lower ?_
    refine ⟨kpr_blt, ?_⟩
    refine evs_nil ?_
    refine cal_lower (by rw [len_te]; omega) ?_
    rw [te_lower he hq1]
    refine sto_loc (i := 15) rfl rfl ?_ -- end
    have henl : (q1.map loA).length < 50 := by rw [List.length_map]; exact hq2
    have hq1l : (q1.map loA).all isL = true := by
      rw [List.all_map]
      refine List.all_eq_true.mpr fun c hc => ?_
      have hcl := List.all_eq_true.mp hq1 c hc
      have key : ∀ c : Fin 8, isL c.1 = true → isL (loA c.1) = true := by decide
      have : c < 8 := by
        unfold isL at hcl
        rw [Bool.or_eq_true, Bool.or_eq_true, Nat.blt_eq, Nat.beq_eq, Nat.beq_eq] at hcl
        omega
      exact key ⟨c, this⟩ hcl
    generalize q1.map loA = en at hk henl hq1l ⊢
    cases hG : getA r.1.1 en with
    | none => rw [hG] at hk; cases hk
    | some v =>
    rw [hG] at hk
    dsimp only at hk
    rw [Bool.and_eq_true, Bool.and_eq_true] at hk
    obtain ⟨hone, hv, hk⟩ := hk
    have hv := nb_lt hv
    obtain ⟨hs1, hs2⟩ := spl_len hv
    -- more, less = table.get(end).split(' ')
    refine ex_asgt ?_
    refine ev_meth ?_
    refine ev_meth ?_
    refine ev_loc (i := 10) rfl rfl rfl rfl ?_ -- table
    refine mth_own (x := x) (mem_st (List.mem_of_getElem? (i := 8) rfl)) (mem_st (List.mem_of_getElem? (i := 9) rfl)) H.ck H.c_get H.t_get (by decide) ?_
    refine ⟨H.f_get.kpr, ?_⟩
    refine evs_cons ?_
    refine ev_loc (i := 15) rfl rfl rfl rfl ?_ -- end
    refine evs_nil ?_
    refine get (x := x) (d := d) (hl := hl) (tbl := tbl) (nm := en.map e) H (by show c.A.depth + 1 + 1 < _; omega) (te_ltr he hq1l) (by rw [List.length_map]; omega) t1 (by omega) (fun p hp => List.mem_append_right _ (List.mem_append_left _ hp)) ?_
    rw [got_get he r1, hG]
    show Mth pw w S0 _ _ _ (.str (te e v)) _ _
    refine mth_split ?_
    refine ⟨kpr_blt, ?_⟩
    refine evs_cons ?_
    refine ev_str ?_ -- ' '
    refine evs_nil ?_
    refine cal_split rfl (by rw [len_te]; omega) fun sl => ?_
    rw [split_te he hone]
    refine asg_ltuple (xs := [.str (te e (splA v).1), .str (te e (splA v).2)]) (mem_st (.head _)) rfl ?_
    refine asg_name (sto_loc (i := 16) rfl rfl ?_)
    refine asg_name (sto_loc (i := 17) rfl rfl ?_)
    -- spot = spot + 1
    refine ex_assign ?_
    refine ev_bin ?_
    refine ev_loc (i := 14) rfl rfl rfl rfl ?_ -- spot
    refine ev_int ?_ -- 1
    refine bin_add ?_ -- spot + 1
    rw [show ((sp : Nat) : Int) + 1 = ((sp + 1 : Nat) : Int) by omega]
    refine sto_loc (i := 14) rfl rfl ?_ -- spot
    refine Ex.wk (m' := [(9, .ref ty), (10, .ref x), (11, .ref ln), (13, .ref me), (14, .int ((sp + 1 : Nat) : Int)), (15, .str (te e en)), (16, .str (te e (splA v).1)), (17, .str (te e (splA v).2))]) (.of ⟨rfl, rfl, rfl, rfl, rfl, rfl, rfl, rfl, trivial⟩ (.cons _ (.refl _))) ?_
    refine s2_for FO he H hroom hok hwl henl hs1 hs2 (by omega) (k := fun r' => stage2K ws f (sp + 1) r' k) r1 r2 r3' hk fun tbl' ls' mls' r' r1' r2' r3'' hk' m' σ' hw' => ?_
    exact ⟨f, _, _, by omega, hw', tbl', ls', mls', r', sp + 1, rfl, rfl, r1', r2', r3'', hk'⟩
  · have h1 : ¬ sp < min r.1.2.length 9 := by have := of_decide_eq_false h1; omega
    rw [show Nat.blt sp (min r.1.2.length 9) = false from by rw [Bool.eq_false_iff]; exact fun x => h1 (Nat.blt_eq.mp x), cond_false] at hk
    refine Ex.wk (m' := [(9, .ref ty), (10, .ref x), (11, .ref ln), (13, .ref me)]) (.of ⟨rfl, rfl, rfl, rfl, trivial⟩ (.refl _)) ?_
    exact h tbl ls me mls r r1 r2 r3' (by omega) hk
end
end Mine
end

section
set_option maxRecDepth 100000
namespace Mine
theorem tx_empty (a : List Nat) : (tx a == (PySem.Str.ofString "")) = a.isEmpty := by
  rw [show (PySem.Str.ofString "") = tx [] from rfl, tx_beq]
  cases a <;> rfl
theorem eqL_nil (a : List Nat) : eqL a [] = a.isEmpty := by cases a <;> rfl
/-- the ends told by the rows -/
theorem ends_rows {e : Nat → Nat} {wls : List Row} {wk : List Pr} (h : Reps e wls wk) :
    (wls.filter fun t => t.2.1.isEmpty != t.2.2.isEmpty).map (fun t => V.str (tx (t.2.1 ++ t.2.2))) = ((endsA wk).map (te e)).map V.str := by
  have h1 : (wls.filter fun t => t.2.1.isEmpty != t.2.2.isEmpty).map (fun t => V.str (tx (t.2.1 ++ t.2.2))) = ((wls.map (·.2)).filter fun p => p.1.isEmpty != p.2.isEmpty).map fun p => V.str (tx (p.1 ++ p.2)) := by
    rw [List.filter_map, List.map_map]; rfl
  rw [h1, h, List.filter_map, List.map_map]
  unfold endsA
  rw [List.map_map, List.map_map]
  have e1 : ((fun p : List Nat × List Nat => p.1.isEmpty != p.2.isEmpty) ∘ fun p : Pr => (p.1.map e, p.2.map e)) = fun p => eqL p.1 [] != eqL p.2 [] := by
    funext p
    show ((p.1.map e).isEmpty != (p.2.map e).isEmpty) = _
    rw [eqL_nil, eqL_nil, List.isEmpty_map, List.isEmpty_map]
  rw [e1]
  refine List.map_congr_left fun p _ => ?_
  show V.str (tx (p.1.map e ++ p.2.map e)) = V.str (tx ((p.1 ++ p.2).map e))
  rw [List.map_append]
theorem names_rows {e : Nat → Nat} (he : Enc e) {tbl : List Row} {tb : List Pr} (h : Reps e tbl tb) :
    (tbl.map fun t => V.str (tx (t.2.1.map lo1))) = ((tb.map fun t => t.1.map loA).map (te e)).map V.str := by
  have h1 : (tbl.map fun t => V.str (tx (t.2.1.map lo1))) = (tbl.map (·.2)).map fun p => V.str (tx (p.1.map lo1)) := by rw [List.map_map]; rfl
  rw [h1, h, List.map_map, List.map_map, List.map_map]
  refine List.map_congr_left fun p _ => ?_
  show V.str (tx ((p.1.map e).map lo1)) = V.str (tx ((p.1.map loA).map e))
  rw [te_lo he]
section
variable {w : World} {S0 : Shared} {Kf : Frag} {c : Cx} {m : Ms} {σ : Sto} {K : Fl → Ms → Sto → Prop} {mg mb : Str → Option Value} {e : Nat → Nat}
variable {pm cd : Value} {L : Addr} (FO : FnOk S0 aLaw (mkFd stLaw "law" pm cd .none .none) (bodyOf stLaw) (locals (scopeOf stLaw)))
theorem lawF1 (he : Enc e) (H : Hc S0 Kf mg mb) (hroom : c.A.depth + 4 < recursionLimit) (hu : c.A.units + 20 < cLine) {tot par oct : Option V} {wo ma ty x d hl ln me : Addr} {ws : List (List Nat)} (hok : okW ws = true) {n : Nat} {tbl ls mls : List Row} {r : St × List Pr}
    (r1 : Reps e tbl r.1.1) (r2 : Reps e ls r.1.2) (r3' : Reps e mls r.2) (hml : mls.length < 100)
    (hk : walkK ws (n + 1) 0 (walk0 ws) (fun wk => lastK r.1 r.2 wk) = true)
    (h : r.1.1.all itemK = true → metK r.2 = true → okT r.1.1 = true → Ex pw w S0 (lawC c m L FO) (lawB 23) [(10, .ref x), (13, .ref me)] (A01 e L tot par oct wo ma ty ws ++ LT x d hl tbl ln ls (Ln me mls ++ σ)) K) :
    Ex pw w S0 (lawC c m L FO) (lawB 19) [(9, .ref ty), (10, .ref x), (11, .ref ln), (13, .ref me)] (A01 e L tot par oct wo ma ty ws ++ LT x d hl tbl ln ls (Ln me mls ++ σ)) K := by
  -- walked = _law_walk(words)
  refine ex_assign ?_
  refine ev_call ?_ -- _law_walk(words)
  refine ev_glob (V0 := .ref aWalk) H.H.B rfl rfl H.H.g_law_walk rfl ?_
  refine ⟨H.H.f_walk.kpr, ?_⟩
  refine evs_cons ?_
  refine ev_cell (Or.inl rfl) rfl rfl rfl (List.mem_of_getElem? (i := 1) rfl) ?_ -- words
  refine evs_nil ?_
  refine walk he H.H (by show c.A.depth + 1 < _; omega) (by show c.A.units + 3 + 10 < _; omega) hok (List.mem_of_getElem? (i := 7) rfl) hk fun la wls wk rw' hlast => ?_
  refine sto_loc (i := 18) rfl rfl ?_ -- walked
  unfold lastK at hlast
  rw [Bool.and_eq_true, Bool.and_eq_true, Bool.and_eq_true, Bool.and_eq_true, Bool.and_eq_true, Bool.and_eq_true, Bool.and_eq_true, Bool.and_eq_true] at hlast
  obtain ⟨hT, hL, hwl, hall, hperm, hsame, hmet, hitems, hmk⟩ := hlast
  have hL := nb_lt hL
  have hwl := nb_lt hwl
  have hsame : r.1.1 = r.1.2 := eq_of_beq hsame
  obtain ⟨t1, t2, t3⟩ := okT_ltr he r1 hT
  have hwlen := rw'.len
  have hlen1 := r1.len
  have hlen2 := r2.len
  have hlen3 := r3'.len
  generalize hS : A01 e L tot par oct wo ma ty ws ++ LT x d hl tbl ln ls (Ln me mls ++ σ) = S
  have hTb : ∀ p ∈ Tb x d hl tbl, p ∈ S := fun p hp => hS ▸ List.mem_append_right _ (List.mem_append_left _ hp)
  have hx : (x, O.inst aClass d) ∈ S := hTb _ (.head _)
  have hd : (d, O.idict "_headers" (.ref hl)) ∈ S := hTb _ (.tail _ (.head _))
  have hln : (ln, O.list ((toP ls).map fun t => V.ref t.1)) ∈ S := by rw [toP_ref, ← hS]; exact List.mem_append_right _ (List.mem_append_right _ (.head _))
  have hlo : ∀ t ∈ toP ls, prO t ∈ S := fun t ht => hS ▸ List.mem_append_right _ (List.mem_append_right _ (toP_mem (C := Ln me mls ++ σ) t ht))
  have hto : ∀ t ∈ toP tbl, prO t ∈ S := fun t ht => by
    obtain ⟨q, hq, rfl⟩ := List.mem_map.mp ht
    exact hTb _ (.tail _ (.tail _ (.tail _ (List.mem_map_of_mem (f := rowO) hq))))
  have hme : (me, O.list ((toP mls).map fun t => V.ref t.1)) ∈ S := by rw [toP_ref, ← hS]; exact mem_in (.head _)
  have hmo : ∀ t ∈ toP mls, prO t ∈ S := fun t ht => hS ▸ mem_in (toP_mem (C := σ) t ht)
  -- ends = sorted(set([u + v for u, v in walked if (u == '') != (v == '')]))
  refine ex_assign ?_
  refine ev_call ?_
  refine ev_blt H.H.B rfl rfl (by decide) H.H.no_sorted boot_sorted ?_
  refine ⟨kpr_blt, ?_⟩
  refine evs_cons ?_
  refine ev_call ?_
  refine ev_blt H.H.B rfl rfl (by decide) H.H.no_set boot_set ?_
  refine ⟨kpr_type, ?_⟩
  refine evs_cons ?_
  refine ev_comp (cl := []) (names := [".0", "u", "v"]) (nd := by decide +kernel) rfl (by decide +kernel) (by decide +kernel) rfl ?_
  refine ev_loc (i := 18) rfl rfl rfl rfl ?_ -- walked
  refine ⟨_, _, itb_list (xs := wls.map fun t => V.ref t.1), mem_st (.head _), fun L2 => ?_⟩
  refine ct_filterA (xs := wls) (fun t : Row => V.ref t.1) (fun t => t.2.1.isEmpty != t.2.2.isEmpty) (fun t => V.str (tx (t.2.1 ++ t.2.2))) (mem_st (.head _)) (sz (by omega)) (fun t ht p q => ?_) ?_
  · have hp : t.2.1.length < 50 ∧ t.2.2.length < 50 := by
      obtain ⟨q, hq, e1, e2⟩ := rw'.all ht
      have := List.all_eq_true.mp hall q hq
      rw [Bool.and_eq_true] at this
      rw [e1, e2, List.length_map, List.length_map]
      exact ⟨nb_lt this.1, nb_lt this.2⟩
    refine asg_tuple (xs := [.str (tx t.2.1), .str (tx t.2.2)]) (mem_st (.tail _ (List.mem_append_left _ (List.mem_map_of_mem (f := rowO) ht)))) rfl ?_
    refine asg_name (sto_loc (i := 1) rfl rfl ?_)
    refine asg_name (sto_loc (i := 2) rfl rfl ?_)
    show Et pw w S0 _ _ _ _ _
    refine et_cmp ?_ -- (u == '') != (v == '')
    refine ev_cmp ?_
    refine ev_loc (i := 1) rfl rfl rfl rfl ?_ -- u
    refine ev_str ?_ -- ''
    refine cmp_seq ?_ -- u == ''
    refine ev_cmp ?_
    refine ev_loc (i := 2) rfl rfl rfl rfl ?_ -- v
    refine ev_str ?_ -- ''
    refine cmp_seq ?_ -- v == ''
    rw [tx_empty, tx_empty]
    refine cmp_bne ?_
    refine tru_bool ?_
    refine ⟨rfl, .refl _, fun _ => ?_⟩
    refine ev_bin ?_
    refine ev_loc (i := 1) rfl rfl rfl rfl ?_ -- u
    refine ev_loc (i := 2) rfl rfl rfl rfl ?_ -- v
    refine bin_cat_tx (by omega) ?_ -- u + v
    exact ⟨rfl, .refl _⟩
  refine ⟨_, .refl _, fun el => ?_⟩
  rw [ends_rows rw']
  have hel : (endsA wk).length < 60 := by
    unfold endsA
    rw [List.length_map]
    exact Nat.lt_of_le_of_lt (List.length_filter_le _ _) hwl
  refine evs_nil ?_
  refine cal_set (mem_st (.head _)) (by rw [List.length_map]; omega) fun sd so hset => ?_
  refine evs_nil ?_
  refine cal_sorted_set (mem_st (.head _)) hset (by have := ddS_len ((endsA wk).map (te e)); rw [List.length_map] at this; omega) fun eb zs hzp hzs => ?_
  refine sto_loc (i := 19) rfl rfl ?_ -- ends
  rw [dd_te he] at hzp
  -- if sorted([name.lower() for name in table.keys()]) != ends or table.items() != line:
  refine ex_if ?_
  refine et_or ?_
  refine et_cmp ?_
  refine ev_call ?_ -- sorted(..)
  refine ev_blt H.H.B rfl rfl (by decide) H.H.no_sorted boot_sorted ?_
  refine ⟨kpr_blt, ?_⟩
  refine evs_cons ?_
  refine ev_comp (cl := []) (names := [".0", "name"]) (nd := by decide +kernel) rfl (by decide +kernel) (by decide +kernel) rfl ?_
  refine ev_meth ?_ -- table.keys()
  refine ev_loc (i := 10) rfl rfl rfl rfl ?_ -- table
  have up : ∀ {p : Addr × O} {q1 q2 q3 : Addr × O} , p ∈ S → p ∈ q1 :: q2 :: q3 :: (Ln la wls ++ S) := fun h => .tail _ (.tail _ (.tail _ (List.mem_append_right _ h)))
  refine mth_own (x := x) (mem_st (up hx)) (mem_st (up hd)) H.ck H.c_keys H.t_keys (by decide) ?_
  refine ⟨H.f_keys.kpr, ?_⟩
  refine evs_nil ?_
  refine keys (x := x) (d := d) (hl := hl) (tbl := tbl) H (by show c.A.depth + 1 < _; omega) (by omega) (fun p hp => up (hTb p hp)) fun kl => ?_
  refine ⟨_, _, itb_list (xs := tbl.map fun t => V.str (tx t.2.1)), mem_st (.head _), fun L3 => ?_⟩
  refine ct_mapA (xs := tbl) (fun t : Row => V.str (tx t.2.1)) (fun t => V.str (tx (t.2.1.map lo1))) (mem_st (.head _)) (sz (by omega)) (fun t ht p q => ?_) ?_
  · refine asg_name (sto_loc (i := 1) rfl rfl ?_)
    refine ev_meth ?_ -- name.lower()
    refine ev_loc (i := 1) rfl rfl rfl rfl ?_ -- name
    refine mth_lower ?_
    refine ⟨kpr_blt, ?_⟩
    refine evs_nil ?_
    have := (t1 t ht).2
    refine cal_lower (by rw [len_tx]; omega) ?_
    rw [(t1 t ht).1.lower]
    exact ⟨rfl, .refl _⟩
  refine ⟨_, .refl _, fun nl => ?_⟩
  rw [names_rows he r1]
  refine evs_nil ?_
  refine cal_sorted_list (mem_st (.head _)) (by rw [List.length_map, List.length_map]; omega) fun nb zs2 hzp2 hzs2 => ?_
  refine ev_loc (i := 19) rfl rfl rfl rfl ?_ -- ends
  refine cmp_lne V.str eqat_str (xs := zs2) (ys := zs) (mem_st (.head _)) (mem_st (.tail _ (.tail _ (.tail _ (.head _))))) (by show c.A.units + 3 < _; omega) ?_
  have hzz : zs2 = zs := sorted_one hzs2 hzs (hzp2.trans (((List.isPerm_iff.mp hperm).map _).trans hzp.symm))
  rw [hzz, beq_self_eq_true]
  refine tru_bool ?_
  refine ⟨fun _ => ?_, fun e => (nomatch e)⟩
  refine et_or ?_
  refine et_cmp ?_ -- table.items() != line
  refine ev_meth ?_ -- table.items()
  refine ev_loc (i := 10) rfl rfl rfl rfl ?_ -- table
  have up6 : ∀ {p : Addr × O} {q1 q2 q3 q4 q5 q6 : Addr × O} , p ∈ S → p ∈ q1 :: q2 :: q3 :: q4 :: q5 :: q6 :: (Ln la wls ++ S) := fun h => .tail _ (.tail _ (.tail _ (up h)))
  refine mth_own (x := x) (mem_st (up6 hx)) (mem_st (up6 hd)) H.ck H.c_items H.t_items (by decide) ?_
  refine ⟨H.f_items.kpr, ?_⟩
  refine evs_nil ?_
  refine items (x := x) (d := d) (hl := hl) (tbl := tbl) H (by show c.A.depth + 1 < _; omega) (by omega) (fun p hp => up6 (hTb p hp)) fun il => ?_
  refine ev_loc (i := 11) rfl rfl rfl rfl ?_ -- line
  refine cmp_plne (ps := toP tbl) (qs := toP ls) (mem_st (by rw [toP_ref]; exact .head _)) (mem_st (.tail _ (up6 hln))) (fun t ht => mem_st (.tail _ (up6 (hto t ht)))) (fun t ht => mem_st (.tail _ (up6 (hlo t ht)))) (by show c.A.units + 3 + 1 < _; omega) ?_
  rw [toP_2 r1, toP_2 r2, hsame, beq_self_eq_true]
  refine tru_bool ?_
  refine ⟨fun _ => ?_, fun e => (nomatch e)⟩
  refine et_or_nil ?_
  refine ⟨fun e => (nomatch e), fun _ => ?_⟩
  refine ex_nil ?_
  refine Ex.wk (m' := [(10, .ref x), (13, .ref me), (18, .ref la)]) (σ' := Ln la wls ++ S) (.of ⟨rfl, rfl, rfl, trivial⟩ (.cons _ (.cons _ (.cons _ (.cons _ (.cons _ (.cons _ (.cons _ (.refl _)))))))) ) ?_
  -- if (met != []) != (('', '') in walked):
  refine ex_if ?_
  refine et_cmp ?_
  refine ev_cmp ?_
  refine ev_loc (i := 13) rfl rfl rfl rfl ?_ -- met
  refine ev_list ?_
  refine evs_nil ?_
  refine ⟨sz (by simp), fun nl => ?_⟩
  refine cmp_plne (ps := toP mls) (qs := []) (mem_st (.tail _ (List.mem_append_right _ hme))) (mem_st (.head _)) (fun t ht => mem_st (.tail _ (List.mem_append_right _ (hmo t ht)))) (fun t ht => (nomatch ht)) (by show c.A.units + 3 + 1 < _; omega) ?_ -- met != []
  refine ev_cmp ?_
  refine ev_tuple ?_
  refine evs_cons ?_
  refine ev_str ?_ -- ''
  refine evs_cons ?_
  refine ev_str ?_ -- ''
  refine evs_nil ?_
  refine ⟨sz (by simp), fun tq => ?_⟩
  refine ev_loc (i := 18) rfl rfl rfl rfl ?_ -- walked
  refine cmp_in_pairs (ps := toP wls) (u := te e []) (v := te e []) (mem_st (.head _)) (mem_st (by rw [toP_ref]; exact .tail _ (.tail _ (.head _)))) (fun t ht => mem_st (.tail _ (.tail _ (toP_mem t ht)))) (by show c.A.units + 3 + 1 < _; omega) ?_
  rw [toP_has he rw']
  refine cmp_bne ?_
  rw [show (!((toP mls).map (·.2) == (([] : Prs).map (·.2)))) = !r.2.isEmpty by
    rw [toP_2 r3']
    cases r.2 <;> rfl]
  rw [hmet]
  refine tru_bool ?_
  refine ⟨fun e => (nomatch e), fun _ => ?_⟩
  refine ex_nil ?_
  refine Ex.wk (m' := [(10, .ref x), (13, .ref me)]) (σ' := S) (.of ⟨rfl, rfl, trivial⟩ (.cons _ (.cons _ (List.sublist_append_right _ _)))) ?_
  rw [← hS]
  exact h hitems hmk hT
end
end Mine
end

section
set_option maxRecDepth 100000
namespace Mine
theorem lo_len (l : List Nat) : (l.map loA).length = l.length := List.length_map _
theorem bare_len (l : List Nat) : (bareA l).length ≤ l.length := List.length_filter_le _ _
theorem spl_len' {l : List Nat} {n : Nat} (h : l.length < n) : (splA l).1.length < n ∧ (splA l).2.length < n := by
  unfold splA
  have h1 := (List.takeWhile_sublist (fun c => !Nat.beq c 5) (l := l)).length_le
  have h2 := (List.dropWhile_sublist (fun c => !Nat.beq c 5) (l := l)).length_le
  refine ⟨?_, ?_⟩
  · show (l.takeWhile _).length < _; omega
  · show ((l.dropWhile _).drop 1).length < _
    rw [List.length_drop]; omega
theorem row_drop {ls : List Row} {y : V} {xs : List V} {k : Nat} (h : y :: xs = (ls.map fun t => V.ref t.1).drop k) : ∃ t, ls[k]? = some t ∧ y = .ref t.1 ∧ xs = (ls.map fun t => V.ref t.1).drop (k + 1) := by
  obtain ⟨hlt, hget, hxs⟩ := drop_at h
  rw [List.getElem?_map] at hget
  cases ht : ls[k]? with
  | none => rw [ht] at hget; cases hget
  | some t => rw [ht] at hget; exact ⟨t, rfl, (Option.some.inj hget).symm, hxs⟩
section
variable {w : World} {S0 : Shared} {Kf : Frag} {c : Cx} {m : Ms} {σ : Sto} {K : Fl → Ms → Sto → Prop} {mg mb : Str → Option Value} {e : Nat → Nat}
variable {pm cd : Value} {L : Addr} (FO : FnOk S0 aLaw (mkFd stLaw "law" pm cd .none .none) (bodyOf stLaw) (locals (scopeOf stLaw)))
theorem lawF2 (he : Enc e) (H : Hc S0 Kf mg mb) (hroom : c.A.depth + 4 < recursionLimit) {A : Sto} {x d hl ln me : Addr} {tbl ls : List Row} {tb : List Pr}
    (r1 : Reps e tbl tb) (hT : okT tb = true) (hit : tb.all itemK = true)
    (h : Ex pw w S0 (lawC c m L FO) (lawB 24) [(13, .ref me)] (A ++ LT x d hl tbl ln ls σ) K) :
    Ex pw w S0 (lawC c m L FO) (lawB 23) [(10, .ref x), (13, .ref me)] (A ++ LT x d hl tbl ln ls σ) K := by
  obtain ⟨t1, t2, t3⟩ := okT_ltr he r1 hT
  generalize hS : A ++ LT x d hl tbl ln ls σ = S at h ⊢
  have hTb : ∀ p ∈ Tb x d hl tbl, p ∈ S := fun p hp => hS ▸ List.mem_append_right _ (List.mem_append_left _ hp)
  have hx : (x, O.inst aClass d) ∈ S := hTb _ (.head _)
  have hd : (d, O.idict "_headers" (.ref hl)) ∈ S := hTb _ (.tail _ (.head _))
  have hro : ∀ t ∈ tbl, rowO t ∈ S := fun t ht => hTb _ (.tail _ (.tail _ (.tail _ (List.mem_map_of_mem (f := rowO) ht))))
  -- for name, value in table.items():
  refine ex_for ?_
  refine ev_meth ?_ -- table.items()
  refine ev_loc (i := 10) rfl rfl rfl rfl ?_ -- table
  refine mth_own (x := x) (mem_st hx) (mem_st hd) H.ck H.c_items H.t_items (by decide) ?_
  refine ⟨H.f_items.kpr, ?_⟩
  refine evs_nil ?_
  refine items (x := x) (d := d) (hl := hl) (tbl := tbl) H (by show c.A.depth + 1 < _; omega) (by omega) hTb fun il => ?_
  refine ⟨_, _, itb_list (xs := tbl.map fun t => V.ref t.1), ?_⟩
  refine turns_gen (fun xs m0 T0 => ∃ k : Nat, xs = (tbl.map fun t => V.ref t.1).drop k ∧ Wk m0 T0 [(13, .ref me)] ((il, .list (tbl.map fun t => V.ref t.1)) :: S)) ?_ ?_ ?_ _ _ _ ?_
  · rintro xs m0 T0 ⟨k, -, hw⟩
    exact mem_st (hw.st.subset (.head _))
  · rintro y xs m0 T0 ⟨k, hx', hw⟩ p
    obtain ⟨t, ht, rfl, hxs⟩ := row_drop hx'
    have htm := List.mem_of_getElem? ht
    obtain ⟨q, hq, e1, e2⟩ := r1.all htm
    have hik := List.all_eq_true.mp hit q hq
    unfold itemK at hik
    rw [Bool.and_eq_true] at hik
    obtain ⟨hone, hik⟩ := hik
    have hvl := t3 t htm
    have hnl := t1 t htm
    have hql : q.2.length < 400 := by rw [e2, List.length_map] at hvl; exact hvl
    have hqn : q.1.length ≤ 100000 := by have := hnl.2; rw [e1, List.length_map] at this; exact this
    have hqL : q.1.all isL = true := by
      unfold okT at hT
      rw [Bool.and_eq_true, List.all_eq_true] at hT
      have := hT.2 q hq
      rw [Bool.and_eq_true] at this
      exact this.1
    obtain ⟨hs1, hs2⟩ := spl_len' hql
    have hb1 := bare_len (splA q.2).1
    have hb2 := bare_len (splA q.2).2
    refine asg_tuple (xs := [.str (te e q.1), .str (te e q.2)]) (mem_st (hw.st.subset (.tail _ (by
      have := hro t htm
      unfold rowO at this
      rw [e1, e2] at this
      exact this)))) rfl ?_
    refine asg_name (sto_loc (i := 20) rfl rfl ?_)
    refine asg_name (sto_loc (i := 21) rfl rfl ?_)
    show Ex pw w S0 _ _ _ _ _
    refine Ex.wk (wk_cons (wk_cons hw 20 _) 21 _) ?_
    -- more, less = value.split(' ')
    refine ex_asgt ?_
    refine ev_meth ?_
    refine ev_loc (i := 21) rfl rfl rfl rfl ?_ -- value
    refine mth_split ?_
    refine ⟨kpr_blt, ?_⟩
    refine evs_cons ?_
    refine ev_str ?_ -- ' '
    refine evs_nil ?_
    refine cal_split rfl (by rw [len_te]; omega) fun sl => ?_
    rw [split_te he hone]
    refine asg_ltuple (xs := [.str (te e (splA q.2).1), .str (te e (splA q.2).2)]) (mem_st (.head _)) rfl ?_
    refine asg_name (sto_loc (i := 16) rfl rfl ?_)
    refine asg_name (sto_loc (i := 17) rfl rfl ?_)
    -- if _law_bare(more) != _law_bare(less) + name.lower():
    refine ex_if ?_
    refine et_cmp ?_
    refine ev_call ?_ -- _law_bare(more)
    refine ev_glob (V0 := .ref aBare) H.H.B rfl rfl H.H.g_law_bare rfl ?_
    refine ⟨H.H.f_bare.kpr, ?_⟩
    refine evs_cons ?_
    refine ev_loc (i := 16) rfl rfl rfl rfl ?_ -- more
    refine evs_nil ?_
    refine bare he H.H (by show c.A.depth + 1 + 1 < _; omega) (by omega) ?_
    refine ev_bin ?_
    refine ev_call ?_ -- _law_bare(less)
    refine ev_glob (V0 := .ref aBare) H.H.B rfl rfl H.H.g_law_bare rfl ?_
    refine ⟨H.H.f_bare.kpr, ?_⟩
    refine evs_cons ?_
    refine ev_loc (i := 17) rfl rfl rfl rfl ?_ -- less
    refine evs_nil ?_
    refine bare he H.H (by show c.A.depth + 1 + 1 < _; omega) (by omega) ?_
    refine ev_meth ?_ -- name.lower()
    refine ev_loc (i := 20) rfl rfl rfl rfl ?_ -- name
    refine mth_lower ?_
    refine ⟨kpr_blt, ?_⟩
    refine evs_nil ?_
    refine cal_lower (by rw [len_te]; omega) ?_
    rw [te_lower he hqL]
    refine bin_cat_te (by rw [lo_len]; omega) ?_ -- _law_bare(less) + name.lower()
    refine cmp_sne ?_
    unfold bne
    rw [te_beq he, hik]
    refine tru_bool ?_
    refine ⟨fun e => (nomatch e), fun _ => ?_⟩
    refine ex_nil (ex_nil ⟨_, _, Wk.rfl, k + 1, hxs, .of ⟨rfl, trivial⟩ (.cons _ (.refl _))⟩)
  · rintro m0 T0 ⟨k, -, hw⟩
    exact Ex.wk ⟨hw.ms, (List.sublist_cons_self _ _).trans hw.st⟩ h
  · exact ⟨0, rfl, .of ⟨rfl, trivial⟩ (.refl _)⟩
end
end Mine
end

section
set_option maxRecDepth 100000
namespace Mine
theorem row_len (l : List Nat) : ∀ r : List (List Nat), (l.foldl rowStep r).length ≤ r.length + l.length + 1 := by
  induction l with
  | nil => intro r; simp
  | cons c l ih =>
    intro r
    rw [List.foldl_cons]
    have h1 := ih (rowStep r c)
    have h2 : (rowStep r c).length ≤ r.length + 1 := by
      unfold rowStep
      cases isM c
      · show (r.dropLast ++ [_]).length ≤ _
        rw [List.length_append, List.length_dropLast]
        show _ - 1 + 1 ≤ _
        omega
      · show (r ++ [[]]).length ≤ _
        rw [List.length_append]; simp
    rw [List.length_cons]; omega
theorem mem_flat {l : List Nat} : ∀ {ls : List (List Nat)}, l ∈ ls → l.length ≤ ls.flatten.length
  | x :: ls, h => by
    rw [List.flatten_cons, List.length_append]
    rcases List.mem_cons.mp h with rfl | h
    · omega
    · have := mem_flat h; omega
theorem join_sz {e : Nat → Nat} {ls : List (List Nat)} (h1 : ls.length ≤ 200) (h2 : ls.flatten.length ≤ 200) : ((ls.map (te e)).map (·.length)).sum + (ls.map (te e)).length * (PySem.Str.ofString "").length ≤ 16777216 := by
  rw [show ls.map (te e) = (ls.map fun l => l.map e).map tx by rw [List.map_map]; rfl]
  refine join_ok0 200 (fun l hl => ?_) (by rw [List.length_map]; omega)
  obtain ⟨x, hx, rfl⟩ := List.mem_map.mp hl
  rw [List.length_map]
  have := mem_flat hx; omega
section
variable {w : World} {S0 : Shared} {Kf : Frag} {c : Cx} {m : Ms} {σ : Sto} {K : Fl → Ms → Sto → Prop} {mg mb : Str → Option Value} {e : Nat → Nat}
variable {pm cd : Value} {L : Addr} (FO : FnOk S0 aLaw (mkFd stLaw "law" pm cd .none .none) (bodyOf stLaw) (locals (scopeOf stLaw)))
theorem lawF3 (he : Enc e) (H : Hc S0 Kf mg mb) (hroom : c.A.depth + 4 < recursionLimit) {me ma : Addr} {mls : List Row} {ms : List Pr} {S : Sto}
    (hme : (me, O.list (mls.map fun t => V.ref t.1)) ∈ S) (hmo : ∀ t ∈ mls, rowO t ∈ S) (hcm : (L + 1 + 1 + 1 + 1 + 1, O.cell (some (.ref ma))) ∈ S) (hma : (ma, O.list (teV e [[2], [3], [4]])) ∈ S)
    (r1 : Reps e mls ms) (hml : mls.length < 100) (hk : metK ms = true)
    (h : ∀ m' σ', K (.ret (.bool true)) m' σ') :
    Ex pw w S0 (lawC c m L FO) (lawB 24) [(13, .ref me)] S K := by
  -- for more, less in met[:1]:
  refine ex_for ?_
  refine ev_lslice ?_
  refine ev_loc (i := 13) rfl rfl rfl rfl ?_ -- met
  refine pt_none ?_
  refine pt_some ?_
  refine ev_int ?_ -- 1
  refine .inl ⟨_, rfl, ?_⟩
  refine ⟨me, mls.map fun t => V.ref t.1, rfl, hme, sz (by rw [List.length_map]; omega), fun sl => ?_⟩
  rw [show cut (mls.map fun t => V.ref t.1) .none (some 1) = (mls.map fun t => V.ref t.1).take 1 from cutT _ 1]
  refine ⟨_, _, itb_list (xs := (mls.map fun t => V.ref t.1).take 1), ?_⟩
  refine turns_gen (fun xs m0 T0 => (xs = [] ∨ ∃ t rest, mls = t :: rest ∧ xs = [V.ref t.1]) ∧ Wk m0 T0 [] ((sl, .list ((mls.map fun t => V.ref t.1).take 1)) :: S)) ?_ ?_ ?_ _ _ _ ?_
  · rintro xs m0 T0 ⟨-, hw⟩
    exact mem_st (hw.st.subset (.head _))
  · rintro y xs m0 T0 ⟨hx, hw⟩ p
    rcases hx with hx | ⟨t, rest, hm, hx⟩
    · cases hx
    obtain ⟨rfl, rfl⟩ : y = .ref t.1 ∧ xs = [] := by
      have := List.cons.inj hx; exact ⟨this.1, this.2⟩
    obtain ⟨q, hq1⟩ : ∃ q, ms[0]? = some q := by
      have := r1.len
      rw [hm] at this
      exact ⟨_, List.getElem?_eq_getElem (by simp at this; omega)⟩
    obtain ⟨t', ht'⟩ := r1.at hq1
    rw [hm] at ht'
    have ht' : t = (t', q.1.map e, q.2.map e) := Option.some.inj ht'
    obtain ⟨rest', hms⟩ : ∃ rest', ms = q :: rest' := by
      cases ms with
      | nil => cases hq1
      | cons a as => exact ⟨as, by rw [Option.some.inj hq1]⟩
    rw [hms] at hk
    unfold metK at hk
    rw [Bool.and_eq_true, Bool.and_eq_true, Bool.and_eq_true, Bool.and_eq_true, Bool.and_eq_true, Bool.and_eq_true, Bool.and_eq_true] at hk
    obtain ⟨hl1, hl2, ha1, ha2, hj1, hj2, hrl, hlev⟩ := hk
    have hl1 := nb_lt hl1
    have hl2 := nb_lt hl2
    have hrl := nb_lt hrl
    have hb2 := bare_len q.2
    have hj1' : (rowA q.1).flatten = bareA q.2 := eq_of_beq (by rw [← eqL_eq]; exact hj1)
    have hj2' : (rowA q.2).flatten = bareA q.2 := eq_of_beq (by rw [← eqL_eq]; exact hj2)
    have hrl2 : (rowA q.2).length ≤ 200 := by
      have := row_len q.2 [[]]
      rw [rowA_eq]; simp at this; omega
    have hmem : (t.1, O.tuple [.str (te e q.1), .str (te e q.2)]) ∈ S := by
      have := hmo t (by rw [hm]; exact .head _)
      rw [ht'] at this ⊢
      exact this
    refine asg_tuple (xs := [.str (te e q.1), .str (te e q.2)]) (mem_st (hw.st.subset (.tail _ hmem))) rfl ?_
    refine asg_name (sto_loc (i := 16) rfl rfl ?_)
    refine asg_name (sto_loc (i := 17) rfl rfl ?_)
    show Ex pw w S0 _ _ _ _ _
    refine Ex.wk (wk_cons (wk_cons hw 16 _) 17 _) ?_
    -- one = _law_row(more, marks)
    refine ex_assign ?_
    refine ev_call ?_
    refine ev_glob (V0 := .ref aRow) H.H.B rfl rfl H.H.g_law_row rfl ?_
    refine ⟨H.H.f_row.kpr, ?_⟩
    refine evs_cons ?_
    refine ev_loc (i := 16) rfl rfl rfl rfl ?_ -- more
    refine evs_cons ?_
    refine ev_cell (Or.inl rfl) rfl rfl rfl (.tail _ hcm) ?_ -- marks
    refine evs_nil ?_
    refine row he H.H (by show c.A.depth + 1 < _; omega) (by omega) (.tail _ hma) fun oa => ?_
    refine sto_loc (i := 22) rfl rfl ?_ -- one
    -- two = _law_row(less, marks)
    refine ex_assign ?_
    refine ev_call ?_
    refine ev_glob (V0 := .ref aRow) H.H.B rfl rfl H.H.g_law_row rfl ?_
    refine ⟨H.H.f_row.kpr, ?_⟩
    refine evs_cons ?_
    refine ev_loc (i := 17) rfl rfl rfl rfl ?_ -- less
    refine evs_cons ?_
    refine ev_cell (Or.inl rfl) rfl rfl rfl (.tail _ (.tail _ hcm)) ?_ -- marks
    refine evs_nil ?_
    refine row he H.H (by show c.A.depth + 1 < _; omega) (by omega) (.tail _ (.tail _ hma)) fun ob => ?_
    refine sto_loc (i := 23) rfl rfl ?_ -- two
    -- whole = _law_bare(less)
    refine ex_assign ?_
    refine ev_call ?_
    refine ev_glob (V0 := .ref aBare) H.H.B rfl rfl H.H.g_law_bare rfl ?_
    refine ⟨H.H.f_bare.kpr, ?_⟩
    refine evs_cons ?_
    refine ev_loc (i := 17) rfl rfl rfl rfl ?_ -- less
    refine evs_nil ?_
    refine bare he H.H (by show c.A.depth + 1 + 1 < _; omega) (by omega) ?_
    refine sto_loc (i := 24) rfl rfl ?_ -- whole
    -- if ''.join(one) != whole or ''.join(two) != whole:
    refine ex_if ?_
    refine et_or ?_
    refine et_cmp ?_ -- ''.join(one) != whole
    refine ev_meth ?_ -- ''.join(one)
    refine ev_str ?_ -- ''
    refine mth_join ?_
    refine ⟨kpr_blt, ?_⟩
    refine evs_cons ?_
    refine ev_loc (i := 22) rfl rfl rfl rfl ?_ -- one
    refine evs_nil ?_
    refine cal_join (ys := (rowA q.1).map (te e)) (mem_st (by rw [← teV_strs]; exact .tail _ (.head _))) (join_sz (by omega) (by rw [hj1']; omega)) ?_
    rw [join_te, hj1']
    refine ev_loc (i := 24) rfl rfl rfl rfl ?_ -- whole
    refine cmp_sne ?_
    rw [bne_self_eq_false]
    refine tru_bool ?_
    refine ⟨fun _ => ?_, fun e => (nomatch e)⟩
    refine et_or ?_
    refine et_cmp ?_ -- ''.join(two) != whole
    refine ev_meth ?_ -- ''.join(two)
    refine ev_str ?_ -- ''
    refine mth_join ?_
    refine ⟨kpr_blt, ?_⟩
    refine evs_cons ?_
    refine ev_loc (i := 23) rfl rfl rfl rfl ?_ -- two
    refine evs_nil ?_
    refine cal_join (ys := (rowA q.2).map (te e)) (mem_st (by rw [← teV_strs]; exact .head _)) (join_sz hrl2 (by rw [hj2']; omega)) ?_
    rw [join_te, hj2']
    refine ev_loc (i := 24) rfl rfl rfl rfl ?_ -- whole
    refine cmp_sne ?_
    rw [bne_self_eq_false]
    refine tru_bool ?_
    refine ⟨fun _ => ?_, fun e => (nomatch e)⟩
    refine et_or_nil ?_
    refine ⟨fun e => (nomatch e), fun _ => ?_⟩
    refine ex_nil ?_
    -- if _levenshtein_distance(more, whole, 2 * len(one) - 2) != 2 * len(one) - 2:
    refine ex_if ?_
    refine et_cmp ?_
    refine ev_call ?_
    refine ev_glob (V0 := .ref aLev) H.H.B rfl rfl H.H.g_levenshtein_distance rfl ?_
    refine ⟨H.H.f_lev.kpr, ?_⟩
    refine evs_cons ?_
    refine ev_loc (i := 16) rfl rfl rfl rfl ?_ -- more
    refine evs_cons ?_
    refine ev_loc (i := 24) rfl rfl rfl rfl ?_ -- whole
    refine evs_cons ?_
    refine ev_bin ?_
    refine ev_bin ?_
    refine ev_int ?_ -- 2
    refine ev_call ?_ -- len(one)
    refine ev_blt H.H.B rfl rfl (by decide) H.H.no_len boot_len ?_
    refine ⟨kpr_blt, ?_⟩
    refine evs_cons ?_
    refine ev_loc (i := 22) rfl rfl rfl rfl ?_ -- one
    refine evs_nil ?_
    refine cal_len_list (xs := teV e (rowA q.1)) (mem_st (.tail _ (.head _))) (by rw [teV_len]; omega) ?_
    rw [teV_len]
    refine bin_mul (IntMulOk.of_left (by decide +kernel)) ?_
    refine ev_int ?_ -- 2
    refine bin_sub ?_ -- 2 * len(one) - 2
    refine evs_nil ?_
    have h5 : ∀ c ∈ q.1, c < 5 := fun c hc => nb_lt (List.all_eq_true.mp ha1 c hc)
    have h5' : ∀ c ∈ bareA q.2, c < 5 := fun c hc => nb_lt (List.all_eq_true.mp ha2 c (List.mem_filter.mp hc).1)
    have hokc : ∀ {l : List Nat}, (∀ c ∈ l, c < 5) → ∀ x ∈ l.map e, Okc x := fun hl x hx => by
      obtain ⟨c, hc, rfl⟩ := List.mem_map.mp hx
      exact he.okc c (hl c hc)
    refine lev (a := q.1.map e) (b := (bareA q.2).map e) H.H (by show c.A.depth + 1 + 1 < _; omega) (by rw [List.length_map]; omega) (by rw [List.length_map]; omega) (hokc h5) (hokc h5') ?_
    rw [lev_e he h5 h5', eq_of_beq hlev]
    refine ev_bin ?_
    refine ev_bin ?_
    refine ev_int ?_ -- 2
    refine ev_call ?_ -- len(one)
    refine ev_blt H.H.B rfl rfl (by decide) H.H.no_len boot_len ?_
    refine ⟨kpr_blt, ?_⟩
    refine evs_cons ?_
    refine ev_loc (i := 22) rfl rfl rfl rfl ?_ -- one
    refine evs_nil ?_
    refine cal_len_list (xs := teV e (rowA q.1)) (mem_st (.tail _ (.head _))) (by rw [teV_len]; omega) ?_
    rw [teV_len]
    refine bin_mul (IntMulOk.of_left (by decide +kernel)) ?_
    refine ev_int ?_ -- 2
    refine bin_sub ?_ -- 2 * len(one) - 2
    refine cmp_ne ?_
    refine tru_bool ?_
    refine ⟨fun e => by simp at e, fun _ => ?_⟩
    exact ex_nil (ex_nil ⟨[], _, .of trivial (.cons _ (.cons _ (.refl _))), .inl rfl, Wk.rfl⟩)
  · rintro m0 T0 ⟨-, hw⟩
    -- return True
    refine ex_ret ?_
    refine ev_bool ?_
    exact h _ _
  · refine ⟨?_, .of trivial (.refl _)⟩
    cases hm : mls with
    | nil => exact .inl rfl
    | cons t rest => exact .inr ⟨t, rest, rfl, rfl⟩
end
end Mine
end

section
set_option maxRecDepth 100000
namespace Mine
/-- a call from outside: no frame lies below -/
theorem code_top {prog : Program} {w : World} {S0 : Shared} {mg mb : Str → Option Value} {A : Around} {a : Addr} {fd : FuncData} {body : List Stmt} {names : List Str} {ns : List Str} {xs : List V} {K : V → Sto → Prop} {σ : Sto} (B : Bs S0 mg mb) (FO : FnOk S0 a fd body names) (hand : A.handled = .none) (hroom : A.depth < recursionLimit)
    (hl : xs.length = ns.length) (hb : ∀ vs : List Value, vs.length = xs.length → bindArgs fd ⟨vs, []⟩ = pure (ns.zip vs))
    (h : ((ns.zip xs).all fun x => fd.scope.names.lookup x.1 == some .local || (fd.scope.names.lookup x.1 == some .cell && ((cellsFrom 0 fd.scope.names []).map (·.1)).contains x.1)) = true ∧
      ∀ L, Ex prog w S0 { A := A.deeper (fenv fd a L), env := fenv fd a L, names := names, F := [], kind := FO.kind, glob := FO.glob, blt := FO.blt, hand := hand, nd := FO.nd } body (bindMs (fun n => fd.scope.names.lookup n) names (ns.zip xs) [])
        (cellObjs (cellsFrom (L + 1) fd.scope.names []) (bindCs (fun n => fd.scope.names.lookup n) (ns.zip xs) fun _ => .none) ++ σ) fun F _ σ' => ∃ x, F = .ret x ∧ K x σ')
    {vs : List Value} (hxs : RzL xs vs) {s : Shared} (R : Rel S0 σ s) {Rr : Result → Shared → Prop} (k : ∀ v V σ' s', Rel S0 σ' s' → Rz V v → K V σ' → Rr (.ok (.ret v)) s') :
    codeAny (model prog w) A (.call (.ref a) ⟨vs, []⟩) Rr s := by
  obtain ⟨o, ho, hd⟩ := FO.at_
  refine codeAny_call_function hroom (R.keep _ _ ho) hd FO.co FO.gen FO.body (FO.code.keeps R.keep) ?_
  rw [hb vs hxs.length.symm]
  refine wpAny_pure ?_
  rw [FO.clo]
  obtain ⟨hok, hex⟩ := h
  have hn : (ns.zip xs).map (·.1) = (ns.zip vs).map (·.1) := by
    rw [List.map_fst_zip (by omega), List.map_fst_zip (by rw [← hxs.length]; omega)]
  have hz : RzL ((ns.zip xs).map (·.2)) ((ns.zip vs).map (·.2)) := by
    rw [List.map_snd_zip (by omega), List.map_snd_zip (by rw [← hxs.length]; omega)]; exact hxs
  have hnames : ∀ n acc, (cellsFrom n fd.scope.names acc).map (·.1) = (cellsFrom 0 fd.scope.names acc).map (·.1) := fun n acc => cellsFrom_names _ _ _ _ _ rfl
  have hkind : ∀ x ∈ ns.zip vs, fd.scope.names.lookup x.1 = some .local ∨ (fd.scope.names.lookup x.1 = some .cell ∧ ((cellsFrom (s.heap.objs.size + 1) fd.scope.names []).lookup x.1).isSome = true) := fun x hx => by
    have hm : x.1 ∈ (ns.zip xs).map (·.1) := by rw [hn]; exact List.mem_map_of_mem hx
    obtain ⟨y, hy, e⟩ := List.mem_map.mp hm
    have := List.all_eq_true.mp hok y hy
    rw [e] at this
    simp only [Bool.or_eq_true, Bool.and_eq_true, beq_iff_eq, List.contains_iff_mem] at this
    refine this.imp id fun ⟨p, q⟩ => ⟨p, ?_⟩
    rw [← hnames (s.heap.objs.size + 1)] at q
    obtain ⟨z, hz, e⟩ := List.mem_map.mp q
    have nd : ((cellsFrom (s.heap.objs.size + 1) fd.scope.names []).map (·.1)).Nodup := by rw [hnames]; exact FO.ndc
    rw [← e, lookup_of_mem_nodup nd (c := z.2) hz]; rfl
  refine wpAny_newFunctionEnv_cells FO.kind hkind fun env he s2 X => ?_
  subst he
  refine ⟨(B.lim.keeps R.keep).keeps X.toInCall.keep, codeAny_func ?_⟩
  have R2 := Rel.enter R (names := names) (m := bindMs (fun n => fd.scope.names.lookup n) names (ns.zip xs) []) (g := bindCs (fun n => fd.scope.names.lookup n) (ns.zip xs) fun _ => .none) X
    (bindMs_ok FO.nd hn hz (fun x hx hl => FO.loc _ hl) FrOk.empty) (by show ((cellsFrom (s.heap.objs.size + 1) fd.scope.names []).map (·.1)).Nodup; rw [hnames]; exact FO.ndc) (bindCs_ok hn hz fun _ => trivial)
  refine Ex.get (hex _) s2 R2 _ _ fun f F m2 σ2 s3 R4 hf hk => ?_
  obtain ⟨x, rfl, hk⟩ := hk
  obtain ⟨v, rfl, hv⟩ := hf
  exact k _ x σ2 s3 (R4.sub (List.sublist_cons_self _ _)) hv hk
section
variable {w : World} {S0 : Shared} {Kf : Frag} {mg mb : Str → Option Value}
theorem law_call (H : Hc S0 Kf mg mb) (FL : FnAt S0 aLaw stLaw "law" .none .none) {A : Around} (hand : A.handled = .none) (hroom : A.depth + 4 < recursionLimit) (hu : A.units + 30 < cLine) {sa : Addr} {ns : List Int} {vs : List Value}
    (hsa : S0.heap.IsList sa vs.toArray) (hz : RzL (ns.map V.int) vs) (hns : ns.length ≤ 63) {Rr : Result → Shared → Prop} (k : ∀ σ' s', Rel S0 σ' s' → Rr (.ok (.ret (.bool true))) s') :
    codeAny (model pw w) A (.call (.ref aLaw) ⟨[.ref sa], []⟩) Rr S0 := by
  obtain ⟨pm, cd, FO⟩ : ∃ pm cd, FnOk S0 aLaw (mkFd stLaw "law" pm cd .none .none) (bodyOf stLaw) (locals (scopeOf stLaw)) :=
    FL.ok (fun _ _ => ⟨rfl, rfl, rfl, rfl, rfl, rfl, rfl⟩) rfl rfl rfl (by decide +kernel) (by decide +kernel) (by decide +kernel)
  refine code_top (K := fun V _ => V = .bool true) (ns := ["script"]) (xs := [.ref sa]) (σ := []) H.H.B FO hand (by omega) rfl (fun vs hv => ?_) ⟨by rfl, fun L => ?_⟩ (vs := [.ref sa]) ⟨rfl, trivial⟩ ⟨rfl, rfl, fun _ _ h => h, List.nodup_nil, fun p hp => (nomatch hp)⟩ fun v V σ' s' R' hv hk => ?_
  · obtain ⟨v, rfl⟩ : ∃ v, vs = [v] := List.length_eq_one_iff.mp hv
    rfl
  · let c0 : Cx := { A := A, env := fenv (mkFd stLaw "law" pm cd .none .none) aLaw L, names := [], F := [], kind := FO.kind, glob := FO.glob, blt := FO.blt, hand := hand, nd := List.nodup_nil }
    obtain ⟨n0, n1, n2, hN, h0, h1, h2, d01, d02, d12⟩ := nums_fact (draws_len (ns.take 63)) (draws_lt (ns.take 63))
    have hl := lawK_all (Nat.mod_lt n0 (show 0 < 14 by decide)) (Nat.mod_lt n1 (show 0 < 14 by decide)) (Nat.mod_lt n2 (show 0 < 14 by decide)) d01 d02 d12
    have hW : wsOf [n0, n1, n2] = [wordA (2 + n0 % 14), wordA (2 + n1 % 14), wordA (2 + n2 % 14)] := rfl
    unfold lawK at hl
    rw [← hW, Bool.and_eq_true] at hl
    obtain ⟨hok, hs1⟩ := hl
    have hDl : ∀ n ∈ [n0, n1, n2], n < 500000 := fun n hn => by
      simp only [List.mem_cons, List.mem_nil_iff, or_false] at hn
      rcases hn with rfl | rfl | rfl <;> assumption
    generalize hT : (ns.take 63).sum = T
    have he := enc_ok T
    refine lawA (c := c0) (m := []) (L := L) FO H hsa hz hns fun pa da => ?_
    rw [hT]
    refine lawN (c := c0) (m := []) (L := L) FO H (draws_len _) fun na => ?_
    rw [hN]
    refine Ex.wk (m' := [(3, .ref na)]) (σ' := (na, .list (nA [n0, n1, n2])) :: ([(pa, .list (teV (enc T) [[0], [1]]))] ++ (c5 L (some (.int T)) (some (.ref pa)) .none .none .none ++ []))) (.of ⟨rfl, trivial⟩ (.cons_cons _ (.cons _ (.refl _)))) ?_
    refine lawT (c := c0) (m := []) (L := L) FO H (by show A.depth + 2 < _; omega) (by show A.units + 3 < _; omega) (by simp) hDl _ fun rd oct => ?_
    refine lawW (c := c0) (m := []) (L := L) FO H (by show A.depth + 3 < _; omega) rfl hok fun wo ma ty x d hl ln => ?_
    refine lawS1 (c := c0) (m := []) (L := L) FO he H hroom hok rfl hs1 fun tbl ls s r1 r2 hs2 => ?_
    refine lawS2 (c := c0) (m := []) (L := L) FO he H hroom hok rfl r1 r2 hs2 fun tbl ls me mls r r1 r2 r3 hml hs3 => ?_
    refine lawF1 (c := c0) (m := []) (L := L) FO he H hroom (by show A.units + 20 < _; omega) hok r1 r2 r3 hml hs3 fun hit hmk hTt => ?_
    refine lawF2 (c := c0) (m := []) (L := L) FO he H hroom r1 hTt hit ?_
    refine lawF3 (c := c0) (m := []) (L := L) FO he H hroom (me := me) (ma := ma) (mls := mls) (mem_in (.head _)) (fun t ht => mem_in (.tail _ (List.mem_append_left _ (List.mem_map_of_mem (f := rowO) ht)))) (List.mem_append_left _ (List.mem_append_left _ (.head _))) (List.mem_append_left _ (List.mem_append_right _ (.tail _ (.head _)))) r3 hml hmk fun m' σ' => ⟨_, rfl, rfl⟩
  · subst hk
    obtain rfl : v = .bool true := hv
    exact k _ _ R'
end
end Mine
end

section
set_option maxRecDepth 100000
namespace Mine
/- what is looked at, at the end of the top -/
noncomputable def fragOf (as : List Addr) (h : Heap) : Frag := as.filterMap fun a => (h.get? a).map fun o => (a, o)
theorem fragOf_in (as : List Addr) (h : Heap) : (fragOf as h).In h := fun a o e => by
  unfold fragOf at e
  induction as with
  | nil => cases e
  | cons b as ih =>
    rw [List.filterMap_cons] at e
    cases hb : h.get? b with
    | none => rw [hb] at e; exact ih e
    | some ob =>
      rw [hb] at e
      simp only [Option.map_some, List.lookup_cons] at e
      split at e
      · rename_i hab
        obtain rfl := eq_of_beq hab
        rw [hb]; exact e
      · exact ih e
noncomputable def barV : Value → Value
  | .int i _ => .int i 0
  | v => v
/-- a def, without its module's name and its code -/
noncomputable def fnSeen (h : Heap) (a : Addr) : Option (FuncData × Option Str) := match h.get? a with
  | some o => match o.data with
    | .func fd => some ({ fd with pyModule := .none, code := .none }, match fd.code with
      | .ref c => match h.get? c with
        | some oc => match oc.data with
          | .fields vs => match vs[1]? with
            | some (Value.str q _) => some q
            | _ => .none
          | _ => .none
        | .none => .none
      | _ => .none)
    | _ => .none
  | .none => .none
noncomputable def reSeen (h : Heap) (a : Addr) : Option (List Int) := match h.get? a with
  | some ⟨.type T, .none, .fields vs, sl⟩ => match vs.toList with
    | [.str _ _, _, _, _, _, .ref ca, i6] => match h.get? ca with
      | some ⟨.type T2, .none, .seq items _, sl2⟩ => if (T == "re.Pattern" && sl.isEmpty && Nat.beq (PySem.Builtin.Re.reRawNat i6) 0 && T2 == "tuple" && sl2.isEmpty) = true then some (items.toList.map PySem.Builtin.Re.reRawOf) else .none
      | _ => .none
    | _ => .none
  | _ => .none
noncomputable def dfSeen (h : Heap) (a : Addr) : Bool := match h.get? a with
  | some ⟨.type T, .none, .seq vs _, sl⟩ => T == "tuple" && sl.isEmpty && (match vs.toList with | [.none] => true | _ => false)
  | _ => false
structure Seen where
  ns : Bool
  gl : List (Option Value)
  fns : List (Option (FuncData × Option Str))
  st : Bool
  re : List (Option (List Int))
  df : List Bool
  sys : Bool
  cb : List Bool
  cf : List (Option (Option Value))
  ct : List (Option Value)
  ck : Option (Option Value)
noncomputable def glN : List Str := ["ord", "chr", "next", "len", "min", "sum", "iter", "range", "list", "type", "str", "sorted", "set", "in_table_b1", "b1_set", "_parse_varint", "_substitution_cost", "_levenshtein_distance", "_law_unseen", "_law_octets", "_law_word", "_law_bare", "_law_row", "_law_walk", "_law_lay", "_CASE_COST", "_MOVE_COST", "_MAX_STRING_SIZE", "Headers", "_name_disallowed_re", "_value_disallowed_re", "law"]
noncomputable def fnA : List (Addr × Stmt × Str × Value) := [(aVarint, stVarint, "_parse_varint", .none), (aB1, stB1, "in_table_b1", .none), (aSubst, stSubst, "_substitution_cost", .none), (aLev, stLev, "_levenshtein_distance", .none), (aUnseen, stUnseen, "_law_unseen", .none), (aOctets, stOctets, "_law_octets", .none), (aWord, stWord, "_law_word", .none), (aBare, stBare, "_law_bare", .none), (aRow, stRow, "_law_row", .none), (aWalk, stWalk, "_law_walk", .none), (aLay, stLay, "_law_lay", .none), (aLaw, stLaw, "law", .none),
  (aInit, meth 0, "Headers.__init__", .ref aInitD), (aConv, meth 1, "Headers._convert_string_type", .none), (aGet, meth 8, "Headers.get", .ref aGetD), (aKeys, meth 9, "Headers.keys", .none), (aItems, meth 11, "Headers.items", .none), (aSetd, meth 15, "Headers.setdefault", .none)]
noncomputable def kfA : List Addr := [171, 170, aInit, aConv, aKeys, aGet, aItems, aSetd]
noncomputable def sees (s : Shared) : Seen where
  ns := s.heap.isNs mainGlobals
  gl := glN.map fun n => (s.heap.nsMap mainGlobals n).map barV
  fns := fnA.map fun x => fnSeen s.heap x.1
  st := match (s.heap.get? aB1set).bind setView with
    | some l => l.all (fun i => b1.contains i) && b1.all (fun i => l.contains i)
    | .none => false
  re := [reSeen s.heap aNameRe, reSeen s.heap aValueRe]
  df := [dfSeen s.heap aInitD, dfSeen s.heap aGetD]
  sys := (s.heap.get? sysModules).isSome
  cb := let K := fragOf kfA s.heap; [makesIn K aClass, plainOver K aClass, hasDictIn K aClass]
  cf := let K := fragOf kfA s.heap; (["__getattribute__", "__getattr__", "__setattr__", "__init__", "_convert_string_type", "keys", "get", "items", "setdefault", "_headers"] : List Str).map fun n => findIn K (.ref aClass) n
  ct := let K := fragOf kfA s.heap; [aInit, aConv, aKeys, aGet, aItems, aSetd].map fun a => typeIn K (.ref a)
  ck := takerIn (fragOf kfA s.heap) aClass "_headers"
noncomputable def nameCodeI : List Int := [14, 10, 4, 1, 1, 22, 0, 31, 16, 127, 0, 13, 7, 22, 0, 31, 16, 127, 0, 1]
noncomputable def valueCodeI : List Int := [14, 14, 4, 1, 1, 9, 4294966783, 0, 0, 2147483648, 0, 0, 0, 0, 0, 13, 11, 9, 4294966783, 0, 0, 2147483648, 0, 0, 0, 0, 0, 1]
noncomputable def seenIs : Seen where
  ns := true
  gl := [.none, .none, .none, .none, .none, .none, .none, .none, .none, .none, .none, .none, .none, some (.ref aB1), some (.ref aB1set), some (.ref aVarint), some (.ref aSubst), some (.ref aLev), some (.ref aUnseen), some (.ref aOctets), some (.ref aWord), some (.ref aBare), some (.ref aRow), some (.ref aWalk), some (.ref aLay), some (.int 1 0), some (.int 2 0), some (.int 40 0), some (.ref aClass), some (.ref aNameRe), some (.ref aValueRe), some (.ref aLaw)]
  fns := fnA.map fun x => some (mkFd x.2.1 x.2.2.1 .none .none x.2.2.2 .none, some x.2.2.1)
  st := true
  re := [some nameCodeI, some valueCodeI]
  df := [true, true]
  sys := true
  cb := [true, true, true]
  cf := [some (some (.builtin "object.__getattribute__")), some .none, some (some (.builtin "object.__setattr__")), some (some (.ref aInit)), some (some (.ref aConv)), some (some (.ref aKeys)), some (some (.ref aGet)), some (some (.ref aItems)), some (some (.ref aSetd)), some .none]
  ct := [some (.type "function"), some (.type "function"), some (.type "function"), some (.type "function"), some (.type "function"), some (.type "function")]
  ck := some .none
noncomputable def q01 : Program := view pw [25]
end Mine
end

section
set_option maxRecDepth 1000000
set_option maxHeartbeats 0
namespace Mine
noncomputable def loose01 : List Str := ["_sre", "_wall", "_name_disallowed_re", "_value_disallowed_re", "Headers", "_parse_varint", "b1_set", "in_table_b1", "_MAX_STRING_SIZE", "_MOVE_COST", "_CASE_COST", "_substitution_cost", "_levenshtein_distance", "_law_unseen", "_law_octets", "_law_word", "_law_bare", "_law_row", "_law_walk", "_law_lay"]
noncomputable abbrev Lft01 (w : World) : Prop := (openEnds treeTable pw w 5000).map (fun s => (openSeen q01 loose01 (importedModules pw.main.body) (fun _ => true) true s, sees s)) = some (openGood q01 loose01, seenIs)
theorem left_ff (w : World) : Lft01 ((w.withFollow "set-order" false).withFollow "special-get-raises" false) := by
  unfold Lft01 openEnds topFrom
  rw [PySem.W.Fast.te4187177175401517315, PySem.W.Fast.te5923862056798008813, PySem.W.Fast.te14364793385576792824, PySem.W.Fast.te14082659384304107361, PySem.W.Fast.te8920871248978507458]
  kernel_rfl
end Mine
end

section
set_option maxRecDepth 1000000
set_option maxHeartbeats 0
namespace Mine
theorem left_ft (w : World) : Lft01 ((w.withFollow "set-order" false).withFollow "special-get-raises" true) := by
  unfold Lft01 openEnds topFrom
  rw [PySem.W.Fast.te4187177175401517315, PySem.W.Fast.te5923862056798008813, PySem.W.Fast.te14364793385576792824, PySem.W.Fast.te14082659384304107361, PySem.W.Fast.te8920871248978507458]
  kernel_rfl
theorem left_tf (w : World) : Lft01 ((w.withFollow "set-order" true).withFollow "special-get-raises" false) := by
  unfold Lft01 openEnds topFrom
  rw [PySem.W.Fast.te4187177175401517315, PySem.W.Fast.te5923862056798008813, PySem.W.Fast.te14364793385576792824, PySem.W.Fast.te14082659384304107361, PySem.W.Fast.te8920871248978507458]
  kernel_rfl
theorem left_tt (w : World) : Lft01 ((w.withFollow "set-order" true).withFollow "special-get-raises" true) := by
  unfold Lft01 openEnds topFrom
  rw [PySem.W.Fast.te4187177175401517315, PySem.W.Fast.te5923862056798008813, PySem.W.Fast.te14364793385576792824, PySem.W.Fast.te14082659384304107361, PySem.W.Fast.te8920871248978507458]
  kernel_rfl
/-- in either order of the two rows -/
theorem left01 : LeftO pw q01 loose01 (fun _ => true) sees (fun _ => seenIs) 5000 := fun w =>
  byRow2 "special-get-raises" (P := Lft01) (fun w => byRow2 "set-order" (P := fun w => Lft01 (w.withFollow "special-get-raises" false)) left_ff left_tf w) (fun w => byRow2 "set-order" (P := fun w => Lft01 (w.withFollow "special-get-raises" true)) left_ft left_tt w) w
end Mine
end

section
open PySem.Builtin PySem.Builtin.Re
set_option maxRecDepth 100000
namespace Mine
noncomputable def Grown (h h' : Heap) : Prop := ∀ b o, h.get? b = some o → h'.get? b = some o
theorem fnAt_of {h : Heap} {S0 : Shared} {a : Addr} {st : Stmt} {q : Str} {dV kV : Value} (hg : Grown h S0.heap) (e : fnSeen h a = some (mkFd st q .none .none dV kV, some q))
    (hst : ∀ pm cd, mkFd st q pm cd dV kV = { mkFd st q .none .none dV kV with pyModule := pm, code := cd }) : FnAt S0 a st q dV kV := by
  unfold fnSeen at e
  split at e
  · rename_i o ho
    split at e
    · rename_i fd hd
      obtain ⟨e1, e2⟩ := Prod.mk.inj (Option.some.inj e)
      refine ⟨o, fd.pyModule, fd.code, hg _ _ ho, ?_, ?_⟩
      · rw [hd, hst, ← e1]
      · split at e2
        · rename_i c hc
          split at e2
          · rename_i oc hoc
            split at e2
            · rename_i vs hvs
              split at e2
              · rename_i q' t hq
                obtain rfl := Option.some.inj e2
                exact ⟨c, oc, vs, t, hc, hg _ _ hoc, hvs, hq⟩
              · cases e2
            · cases e2
          · cases e2
        · cases e2
    · cases e
  · cases e
theorem isRe_of {h h' : Heap} {a : Addr} {l : List Int} {code : Array Nat} (hg : Grown h h') (e : reSeen h a = some l) (hc : l.map (·.toNat) = code.toList) : IsRe h' a code := by
  unfold reSeen at e
  split at e
  · rename_i T vs sl ho
    split at e
    · rename_i x t v1 i2 v3 v4 ca i6 hvs
      split at e
      · rename_i T2 items n sl2 hca
        split at e
        · rename_i hif
          simp only [Bool.and_eq_true, beq_iff_eq, Array.isEmpty_iff] at hif
          obtain ⟨⟨⟨⟨rfl, rfl⟩, h6⟩, rfl⟩, rfl⟩ := hif
          have hvs' : vs = #[.str x t, v1, i2, v3, v4, .ref ca, i6] := by rw [← Array.toList_inj, hvs]
          subst hvs'
          refine ⟨x, t, i2, i6, v1, v3, v4, ca, items, n, hg _ _ ho, Nat.eq_of_beq_eq_true h6, hg _ _ hca, ?_⟩
          rw [← Array.toList_inj, Array.toList_map, Array.toList_map, ← hc, ← Option.some.inj e]
        · cases e
      · cases e
    · cases e
  · cases e
theorem df_of {h h' : Heap} {a : Addr} (hg : Grown h h') (e : dfSeen h a = true) : ∃ n, h'.get? a = some ⟨.type "tuple", .none, .seq #[.none] n, #[]⟩ := by
  unfold dfSeen at e
  split at e
  · rename_i T vs n sl ho
    simp only [Bool.and_eq_true, beq_iff_eq, Array.isEmpty_iff] at e
    obtain ⟨⟨rfl, rfl⟩, e⟩ := e
    split at e
    · rename_i hvs
      have hvs' : vs = #[.none] := by rw [← Array.toList_inj, hvs]
      subst hvs'
      exact ⟨n, hg _ _ ho⟩
    · cases e
  · cases e
theorem set_of {h h' : Heap} {a : Addr} (hg : Grown h h') (e : (match (h.get? a).bind setView with | some l => l.all (fun i => b1.contains i) && b1.all (fun i => l.contains i) | .none => false) = true) :
    ∃ o l, h'.get? a = some o ∧ setView o = some l ∧ ∀ i, l.contains i = b1.contains i := by
  split at e
  · rename_i l hl
    obtain ⟨o, ho, hv⟩ := Option.bind_eq_some_iff.mp hl
    simp only [Bool.and_eq_true, List.all_eq_true] at e
    refine ⟨o, l, hg _ _ ho, hv, fun i => ?_⟩
    rw [Bool.eq_iff_iff]
    exact ⟨fun x => e.1 i (List.contains_iff_mem.mp x), fun x => e.2 i (List.contains_iff_mem.mp x)⟩
  · cases e
theorem mg_of {h h' : Heap} {mg : Str → Option Value} (hg : Grown h h') (hns : h.isNs mainGlobals = true) (g : h'.Ns mainGlobals mg) (n : Str) : mg n = h.nsMap mainGlobals n := by
  obtain ⟨o, es, ep, ho, hd, hk, hm⟩ := g
  unfold Heap.nsMap
  cases hb : h.get? mainGlobals with
  | none => unfold Heap.isNs at hns; rw [hb] at hns; cases hns
  | some ob =>
    obtain rfl : ob = o := Option.some.inj ((hg _ _ hb).symm.trans ho)
    simp only [hd]
    exact (hm n).symm
theorem bare_none {x : Option Value} (h : x.map barV = .none) : x = .none := by cases x <;> simp_all
theorem bare_ref {x : Option Value} {a : Addr} (h : x.map barV = some (.ref a)) : x = some (.ref a) := by
  cases x with
  | none => cases h
  | some v => cases v <;> simp_all [barV]
theorem bare_int {x : Option Value} {i : Int} (h : x.map barV = some (.int i 0)) : ∃ t, x = some (.int i t) := by
  cases x with
  | none => cases h
  | some v => cases v <;> simp_all [barV]
theorem at_of {α : Type} {l l' : List α} (h : l = l') (k : Nat) {x y : α} (hx : l[k]? = some x) (hy : l'[k]? = some y) : x = y := by
  rw [h, hy] at hx; exact (Option.some.inj hx).symm
theorem facts01 {S0 : Shared} {s : Shared} {mg mb : Str → Option Value} (e : sees s = seenIs) (hg : Grown s.heap S0.heap) (B : Bs S0 mg mb) : Hc S0 (fragOf kfA s.heap) mg mb ∧ FnAt S0 aLaw stLaw "law" .none .none ∧ mg "law" = some (.ref aLaw) := by
  have e_ns := congrArg Seen.ns e
  have e_gl := congrArg Seen.gl e
  have e_fn := congrArg Seen.fns e
  have e_st := congrArg Seen.st e
  have e_re := congrArg Seen.re e
  have e_df := congrArg Seen.df e
  have e_sys := congrArg Seen.sys e
  have e_cb := congrArg Seen.cb e
  have e_cf := congrArg Seen.cf e
  have e_ct := congrArg Seen.ct e
  have e_ck := congrArg Seen.ck e
  clear e
  simp only [sees, seenIs, kfA, List.map_cons, List.map_nil, List.cons.injEq, and_true] at e_ns e_st e_re e_df e_sys e_cb e_cf e_ct e_ck
  obtain ⟨r1, r2⟩ := e_re
  obtain ⟨d1, d2⟩ := e_df
  obtain ⟨b1', b2', b3'⟩ := e_cb
  obtain ⟨c1, c2, c3, c4, c5, c6, c7, c8, c9, c10⟩ := e_cf
  obtain ⟨t1, t2, t3, t4, t5, t6⟩ := e_ct
  have mgo := mg_of hg e_ns B.g
  have hsys : ∃ o, S0.heap.get? sysModules = some o := by
    obtain ⟨o, ho⟩ := Option.isSome_iff_exists.mp e_sys
    exact ⟨o, hg _ _ ho⟩
  refine ⟨⟨⟨B, ?_, ?_, ?_, ?_, ?_, ?_, ?_, ?_, ?_, ?_, ?_, ?_, ?_, ?_, ?_, ?_, ?_, ?_, ?_, ?_, ?_, ?_, ?_, ?_, ?_, ?_, ?_, ?_, ?_, ?_, ?_, ?_, ?_, ?_, ?_, ?_, ?_, ?_, ?_, ?_⟩, ⟨?_, b1', c1, c2, c3, b2', b3'⟩, ?_, ?_, ?_, isRe_of hg r1 rfl, isRe_of hg r2 rfl, hsys, c4, t1, c5, t2, c6, t3, c7, t4, c8, t5, c9, t6, c10, e_ck, ?_, df_of hg d1, ?_, ?_, df_of hg d2, ?_, ?_, ?_⟩, ?_, ?_⟩
  · rw [mgo]; exact bare_none (at_of e_gl 0 rfl rfl)
  · rw [mgo]; exact bare_none (at_of e_gl 1 rfl rfl)
  · rw [mgo]; exact bare_none (at_of e_gl 2 rfl rfl)
  · rw [mgo]; exact bare_none (at_of e_gl 3 rfl rfl)
  · rw [mgo]; exact bare_none (at_of e_gl 4 rfl rfl)
  · rw [mgo]; exact bare_none (at_of e_gl 5 rfl rfl)
  · rw [mgo]; exact bare_none (at_of e_gl 6 rfl rfl)
  · rw [mgo]; exact bare_none (at_of e_gl 7 rfl rfl)
  · rw [mgo]; exact bare_none (at_of e_gl 8 rfl rfl)
  · rw [mgo]; exact bare_none (at_of e_gl 9 rfl rfl)
  · rw [mgo]; exact bare_none (at_of e_gl 10 rfl rfl)
  · rw [mgo]; exact bare_none (at_of e_gl 11 rfl rfl)
  · rw [mgo]; exact bare_none (at_of e_gl 12 rfl rfl)
  · rw [mgo]; exact bare_ref (at_of e_gl 13 rfl rfl)
  · rw [mgo]; exact bare_ref (at_of e_gl 14 rfl rfl)
  · rw [mgo]; exact bare_ref (at_of e_gl 15 rfl rfl)
  · rw [mgo]; exact bare_ref (at_of e_gl 16 rfl rfl)
  · rw [mgo]; exact bare_ref (at_of e_gl 17 rfl rfl)
  · rw [mgo]; exact bare_ref (at_of e_gl 18 rfl rfl)
  · rw [mgo]; exact bare_ref (at_of e_gl 19 rfl rfl)
  · rw [mgo]; exact bare_ref (at_of e_gl 20 rfl rfl)
  · rw [mgo]; exact bare_ref (at_of e_gl 21 rfl rfl)
  · rw [mgo]; exact bare_ref (at_of e_gl 22 rfl rfl)
  · rw [mgo]; exact bare_ref (at_of e_gl 23 rfl rfl)
  · rw [mgo]; exact bare_ref (at_of e_gl 24 rfl rfl)
  · rw [mgo]; exact bare_int (at_of e_gl 25 rfl rfl)
  · rw [mgo]; exact bare_int (at_of e_gl 26 rfl rfl)
  · rw [mgo]; exact bare_int (at_of e_gl 27 rfl rfl)
  · exact fnAt_of hg (at_of e_fn 0 rfl rfl) fun _ _ => rfl
  · exact fnAt_of hg (at_of e_fn 1 rfl rfl) fun _ _ => rfl
  · exact fnAt_of hg (at_of e_fn 2 rfl rfl) fun _ _ => rfl
  · exact fnAt_of hg (at_of e_fn 3 rfl rfl) fun _ _ => rfl
  · exact fnAt_of hg (at_of e_fn 4 rfl rfl) fun _ _ => rfl
  · exact fnAt_of hg (at_of e_fn 5 rfl rfl) fun _ _ => rfl
  · exact fnAt_of hg (at_of e_fn 6 rfl rfl) fun _ _ => rfl
  · exact fnAt_of hg (at_of e_fn 7 rfl rfl) fun _ _ => rfl
  · exact fnAt_of hg (at_of e_fn 8 rfl rfl) fun _ _ => rfl
  · exact fnAt_of hg (at_of e_fn 9 rfl rfl) fun _ _ => rfl
  · exact fnAt_of hg (at_of e_fn 10 rfl rfl) fun _ _ => rfl
  · exact set_of hg e_st
  · exact fun a o x => hg _ _ (fragOf_in _ _ a o x)
  · rw [mgo]; exact bare_ref (at_of e_gl 28 rfl rfl)
  · rw [mgo]; exact bare_ref (at_of e_gl 29 rfl rfl)
  · rw [mgo]; exact bare_ref (at_of e_gl 30 rfl rfl)
  · exact fnAt_of hg (at_of e_fn 12 rfl rfl) fun _ _ => rfl
  · exact fnAt_of hg (at_of e_fn 13 rfl rfl) fun _ _ => rfl
  · exact fnAt_of hg (at_of e_fn 14 rfl rfl) fun _ _ => rfl
  · exact fnAt_of hg (at_of e_fn 15 rfl rfl) fun _ _ => rfl
  · exact fnAt_of hg (at_of e_fn 16 rfl rfl) fun _ _ => rfl
  · exact fnAt_of hg (at_of e_fn 17 rfl rfl) fun _ _ => rfl
  · exact fnAt_of hg (at_of e_fn 11 rfl rfl) fun _ _ => rfl
  · rw [mgo]; exact bare_ref (at_of e_gl 31 rfl rfl)
end Mine
end

section
set_option maxRecDepth 1000000
set_option maxHeartbeats 0
namespace Mine
theorem reads_ints {R : WRecords} {cl : Str → Option Addr} {h : Heap} : ∀ {ns : List Int} {vs : List Value} {as : List Addr}, ReadsAllW R cl h vs (ns.map .int) as → RzL (ns.map V.int) vs
  | [], _, _, r => by cases r; trivial
  | i :: ns, _, _, r => by
    rw [List.map_cons] at r
    cases r with
    | cons r1 r2 => cases r1 with | int _ t => exact ⟨⟨t, rfl⟩, reads_ints r2⟩
theorem args_of {R : WRecords} {args : List WData} {p : WTm} (h1 : WShape.hasAll R args [.list .int] = true) (h2 : (WTm.and (.not (.lt (.lit (.int 63)) (.len (.arg 0)))) p).holds R { args := args } = true) : ∃ ns : List Int, args = [.list (ns.map .int)] ∧ ns.length ≤ 63 := by
  obtain ⟨d, r, rfl, x, y⟩ := hasAllW_cons h1
  obtain rfl := hasAllW_nil y
  obtain ⟨xs, rfl, hx⟩ := hasW_list x
  obtain ⟨ns, rfl⟩ := items_int hx
  refine ⟨ns, rfl, ?_⟩
  have h3 := (holds_andW h2).1
  unfold WTm.holds at h3
  simp [WTm.value, PySem.W.less?, PySem.W.Num.less?] at h3
  by_cases hh : (63 : Int) < ns.length
  · rw [decide_eq_true hh] at h3
    exact absurd h3 (by decide)
  · omega
theorem post_true (l : OpenLaw) (args : List WData) : l.row.toRowW.claim.post args (.bool true) args = true := by
  show (WShape.has l.row.toRowW.records (.bool true) .bool && WTm.holds l.row.toRowW.records (.eq .res (.lit (.bool true))) { args := args, res := some (.bool true), after := args }) = true
  rw [show WShape.has l.row.toRowW.records (.bool true) .bool = true by simp [WShape.has, WShape.arms], Bool.true_and]
  unfold WTm.holds
  simp [WTm.value, show PySem.W.same (.bool true) (.bool true) = true by simp [PySem.W.same]]
theorem none_of {P : Addr → Prop} : ∀ a ∈ ([] : List Addr), P a := fun a h => by cases h
noncomputable def YP01 (_ : World) (h : Heap) : Prop := ∃ s : Shared, sees s = seenIs ∧ Grown s.heap h
theorem pre_of (l : OpenLaw) (hm : l.most = some 63) {args : List WData} (h : l.row.toRowW.claim.pre args = true) : ∃ ns : List Int, args = [.list (ns.map .int)] ∧ ns.length ≤ 63 := by
  obtain ⟨h1, h2⟩ := pre_splitW h
  have h2 : WTm.holds l.row.toRowW.records l.pre { args := args } = true := h2
  unfold OpenLaw.pre at h2
  rw [hm] at h2
  exact args_of h1 h2
theorem call01 (l : OpenLaw) (hp : l.prog = pw) (hm : l.most = some 63) {w : World} {s₁ : Shared} {mg mb : Str → Option Value} (Y : YP01 w s₁.heap) (B : Bs s₁ mg mb) {a : Addr} (hmg : mg "law" = some (.ref a)) (hgens : s₁.gens = #[])
    {args : List WData} {vals : List Value} {as : List Addr} (hpre : l.row.toRowW.claim.pre args = true) {R : WRecords} {cl : Str → Option Addr} {mean : ExcName → Option Value} (hrd : ReadsAllW R cl s₁.heap vals args as) :
    wpAny (model l.prog w) callerA (call (.ref a) vals) (fun v s' => GoodWG l.row.toRowW.claim cl mean args s₁ (.ok (.ret v)) s') (fun e s' => GoodWG l.row.toRowW.claim cl mean args s₁ (.error e) s') s₁ := by
  rw [hp]
  obtain ⟨s, e, hg⟩ := Y
  obtain ⟨H, FL, hl⟩ := facts01 e hg B
  obtain rfl : a = aLaw := by
    have := hmg.symm.trans hl
    injection this with this; injection this
  obtain ⟨ns, rfl, hns⟩ := pre_of l hm hpre
  cases hrd with
  | cons r1 r2 =>
    cases r2
    cases r1 with
    | list h1 h2 h3 h4 =>
      rename_i a o vs n as'
      refine wpAny_call (law_call H FL rfl (by decide) (by decide) (vs := vs.toList) ?_ (reads_ints h4) hns fun σ' s' R' => ?_)
      · exact ⟨o, h1, h2, n, by rw [Array.toArray_toList]; exact h3⟩
      · exact GoodW.toG ⟨.inl ⟨_, .bool true, [], rfl, fun _ => rfl, .bool true, post_true _ _, fun _ => ⟨List.nodup_nil, none_of⟩⟩, R'.keep, R'.os, R'.gens.trans hgens⟩
end Mine
end

set_option maxHeartbeats 8000000 in
theorem PySem.Challenge.cw_sn0049_01_holds : PySem.Challenge.rw_sn0049_01.Holds := by
  refine PySem.W.holds_law (by kernel_rfl) fun said => ?_
  refine PySem.W.holds_open (q := Mine.q01) (loose := Mine.loose01) (Xt := fun _ => true) (XP := fun _ _ => True) (Yf := Mine.sees) (Ya := fun _ => Mine.seenIs) (YP := Mine.YP01) (N := 5000) Mine.left01
    (fun w s e => ⟨s, e, fun _ _ h => h⟩) (fun w h h' ⟨s, e, g⟩ hk => ⟨s, e, fun b o x => hk b o (g b o x)⟩) (fun _ _ => trivial) (fun _ _ _ _ _ => trivial) (by rfl) (by rfl) (by rfl) (fun s e => recFacts_nil rfl) (by rfl) (by assumption) (by decide +kernel)
    ⟨rfl, rfl, rfl, rfl, rfl, by decide +kernel⟩ ⟨[.list [.int 3, .int 1]], by decide +kernel, by decide +kernel⟩ ?_
  intro w s₀ s₁ mg mb G Y a o pm cd doc dV kV ho hd hcd hD hmg hgens args vals as hpre hlay hrd hwl hlo
  exact Mine.call01 PySem.Challenge.rw_sn0049_01 rfl rfl Y ⟨G.T.g, G.T.b, G.T.nolimit, G.T.builtins⟩ hmg hgens hpre hrd
