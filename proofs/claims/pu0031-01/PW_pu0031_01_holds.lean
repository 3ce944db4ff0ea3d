import PyProof.Rows.All
import Wide.All
import OpenK.AllK
import Wide.FinOn
import Lean
import PySem.Challenge.RW_pu0031_01
section
open PySem PySem.W PyProof.Rows
set_option Elab.async false
set_option maxRecDepth 100000
set_option maxHeartbeats 0
namespace Mine
open_top hd for PySem.Challenge.rw_pu0031_01
end Mine

end
section
set_option Elab.async false
set_option maxRecDepth 100000
set_option autoImplicit false
set_option linter.unusedVariables false
namespace Mine
open PySem PySem.W PyProof.Rows PySem.Calls

abbrev Vol := Addr → Prop

inductive Rd (X : Vol) (h : Heap) : Value → PyData → Prop
  | none : Rd X h .none .none
  | bool (b : Bool) : Rd X h (.bool b) (.bool b)
  | int (i : Int) (t : Tok) : Rd X h (.int i t) (.int i)
  | str (x : Str) (t : Tok) : Rd X h (.str x t) (.str x)
  | list {a : Addr} {vs : List Value} {ds : List PyData} : ¬ X a → h.IsList a vs.toArray → vs.length = ds.length → (∀ (i : Nat) v d, vs[i]? = some v → ds[i]? = some d → Rd X h v d) → Rd X h (.ref a) (.list ds)
  | tuple {a : Addr} {vs : List Value} {ds : List PyData} : ¬ X a → h.IsTuple a vs.toArray → vs.length = ds.length → (∀ (i : Nat) v d, vs[i]? = some v → ds[i]? = some d → Rd X h v d) → Rd X h (.ref a) (.tuple ds)

def RdAll (X : Vol) (h : Heap) (vs : List Value) (ds : List PyData) : Prop := vs.length = ds.length ∧ ∀ (i : Nat) v d, vs[i]? = some v → ds[i]? = some d → Rd X h v d

/-- the kinds of objects that data are made of -/
def Rel (o : Obj) : Prop := o.cls = .type "list" ∨ o.cls = .type "tuple" ∨ o.cls = .type "dict" ∨ ∃ a, o.cls = .ref a
/-- every object of such a kind outside X of h stands in h' -/
def Kx (X : Vol) (h h' : Heap) : Prop := ∀ b o, ¬ X b → Rel o → h.get? b = some o → h'.get? b = some o

theorem Kx.refl (X : Vol) (h : Heap) : Kx X h h := fun _ _ _ _ e => e
theorem Kx.trans {X : Vol} {h h' h'' : Heap} (a : Kx X h h') (b : Kx X h' h'') : Kx X h h'' := fun c o n r e => b c o n r (a c o n r e)
theorem Kx.of {X : Vol} {h h' : Heap} (a : ∀ b o, ¬ X b → h.get? b = some o → h'.get? b = some o) : Kx X h h' := fun b o n _ e => a b o n e
theorem Kx.of_stays {X : Vol} {h h' : Heap} (a : h.StaysIn h') : Kx X h h' := fun b o _ _ e => a b o e

theorem Rd.mono {X : Vol} {h h' : Heap} (k : Kx X h h') {v : Value} {d : PyData} (r : Rd X h v d) : Rd X h' v d := by
  induction r with
  | none => exact .none
  | bool b => exact .bool b
  | int i t => exact .int i t
  | str x t => exact .str x t
  | list hx hl hn _ ih => obtain ⟨o, ho, r⟩ := hl; exact .list hx ⟨o, k _ _ hx (.inl r.1) ho, r⟩ hn ih
  | tuple hx hl hn _ ih => obtain ⟨o, ho, r⟩ := hl; exact .tuple hx ⟨o, k _ _ hx (.inr (.inl r.1)) ho, r⟩ hn ih

/-- a change of the volatile set that leaves the standing objects alone -/
theorem Rd.vol {X X' : Vol} {h : Heap} (k : ∀ a o, h.get? a = some o → X' a → X a) {v : Value} {d : PyData} (r : Rd X h v d) : Rd X' h v d := by
  induction r with
  | none => exact .none
  | bool b => exact .bool b
  | int i t => exact .int i t
  | str x t => exact .str x t
  | list hx hl hn _ ih => obtain ⟨o, ho, r⟩ := id hl; exact .list (fun q => hx (k _ _ ho q)) hl hn ih
  | tuple hx hl hn _ ih => obtain ⟨o, ho, r⟩ := id hl; exact .tuple (fun q => hx (k _ _ ho q)) hl hn ih

theorem RdAll.mono {X : Vol} {h h' : Heap} (k : Kx X h h') {vs : List Value} {ds : List PyData} (r : RdAll X h vs ds) : RdAll X h' vs ds := ⟨r.1, fun i v d a b => (r.2 i v d a b).mono k⟩
theorem RdAll.vol {X X' : Vol} {h : Heap} (k : ∀ a o, h.get? a = some o → X' a → X a) {vs : List Value} {ds : List PyData} (r : RdAll X h vs ds) : RdAll X' h vs ds := ⟨r.1, fun i v d a b => (r.2 i v d a b).vol k⟩
theorem RdAll.nil {X : Vol} {h : Heap} : RdAll X h [] [] := ⟨rfl, fun i v d a => by simp at a⟩
theorem RdAll.cons {X : Vol} {h : Heap} {v : Value} {vs : List Value} {d : PyData} {ds : List PyData} (a : Rd X h v d) (r : RdAll X h vs ds) : RdAll X h (v :: vs) (d :: ds) := by
  refine ⟨by simp [r.1], fun i v' d' e1 e2 => ?_⟩
  cases i with
  | zero => simp at e1 e2; subst e1 e2; exact a
  | succ i => simp at e1 e2; exact r.2 i v' d' e1 e2
theorem RdAll.append {X : Vol} {h : Heap} {vs ws : List Value} {ds es : List PyData} (a : RdAll X h vs ds) (b : RdAll X h ws es) : RdAll X h (vs ++ ws) (ds ++ es) := by
  refine ⟨by simp [a.1, b.1], fun i v' d' e1 e2 => ?_⟩
  by_cases q : i < vs.length
  · rw [List.getElem?_append_left q] at e1
    rw [List.getElem?_append_left (by rw [← a.1]; exact q)] at e2
    exact a.2 i _ _ e1 e2
  · rw [List.getElem?_append_right (by omega)] at e1
    rw [List.getElem?_append_right (by rw [← a.1]; omega), ← a.1] at e2
    exact b.2 _ _ _ e1 e2
theorem RdAll.take {X : Vol} {h : Heap} {vs : List Value} {ds : List PyData} (a : RdAll X h vs ds) (n : Nat) : RdAll X h (vs.take n) (ds.take n) := by
  refine ⟨by simp [a.1], fun i v' d' e1 e2 => ?_⟩
  rw [List.getElem?_take] at e1 e2
  split at e1
  · rename_i q; rw [if_pos q] at e2; exact a.2 i _ _ e1 e2
  · cases e1
theorem RdAll.drop {X : Vol} {h : Heap} {vs : List Value} {ds : List PyData} (a : RdAll X h vs ds) (n : Nat) : RdAll X h (vs.drop n) (ds.drop n) := by
  refine ⟨by simp [a.1], fun i v' d' e1 e2 => ?_⟩
  rw [List.getElem?_drop] at e1 e2
  exact a.2 _ _ _ e1 e2
theorem RdAll.inv_cons {X : Vol} {h : Heap} {vs : List Value} {d : PyData} {ds : List PyData} (a : RdAll X h vs (d :: ds)) : ∃ v vs', vs = v :: vs' ∧ Rd X h v d ∧ RdAll X h vs' ds := by
  cases vs with
  | nil => have := a.1; simp at this
  | cons v vs => exact ⟨v, vs, rfl, a.2 0 v d rfl rfl, by simpa using a.1, fun i v' d' e1 e2 => a.2 (i + 1) v' d' (by simpa using e1) (by simpa using e2)⟩
theorem RdAll.inv_nil {X : Vol} {h : Heap} {vs : List Value} (a : RdAll X h vs []) : vs = [] := by
  cases vs with
  | nil => rfl
  | cons v vs => have := a.1; simp at this

theorem Rd.list_inv {X : Vol} {h : Heap} {v : Value} {ds : List PyData} (r : Rd X h v (.list ds)) : ∃ a vs, v = .ref a ∧ ¬ X a ∧ h.IsList a vs.toArray ∧ RdAll X h vs ds := by
  cases r with
  | list hx hl hn hr => exact ⟨_, _, rfl, hx, hl, hn, hr⟩
theorem Rd.tuple_inv {X : Vol} {h : Heap} {v : Value} {ds : List PyData} (r : Rd X h v (.tuple ds)) : ∃ a vs, v = .ref a ∧ ¬ X a ∧ h.IsTuple a vs.toArray ∧ RdAll X h vs ds := by
  cases r with
  | tuple hx hl hn hr => exact ⟨_, _, rfl, hx, hl, hn, hr⟩
theorem Rd.int_inv {X : Vol} {h : Heap} {v : Value} {i : Int} (r : Rd X h v (.int i)) : ∃ t, v = .int i t := by cases r with | int i t => exact ⟨t, rfl⟩
theorem Rd.str_inv {X : Vol} {h : Heap} {v : Value} {x : Str} (r : Rd X h v (.str x)) : ∃ t, v = .str x t := by cases r with | str i t => exact ⟨t, rfl⟩
theorem Rd.bool_inv {X : Vol} {h : Heap} {v : Value} {b : Bool} (r : Rd X h v (.bool b)) : v = .bool b := by cases r with | bool b => rfl
theorem Rd.none_inv {X : Vol} {h : Heap} {v : Value} (r : Rd X h v .none) : v = .none := by cases r with | none => rfl
theorem Rd.mkList {X : Vol} {h : Heap} {a : Addr} {vs : List Value} {ds : List PyData} (hx : ¬ X a) (hl : h.IsList a vs.toArray) (r : RdAll X h vs ds) : Rd X h (.ref a) (.list ds) := .list hx hl r.1 r.2
theorem Rd.mkTuple {X : Vol} {h : Heap} {a : Addr} {vs : List Value} {ds : List PyData} (hx : ¬ X a) (hl : h.IsTuple a vs.toArray) (r : RdAll X h vs ds) : Rd X h (.ref a) (.tuple ds) := .tuple hx hl r.1 r.2

theorem readsAll_of {h : Heap} : ∀ {vs : List Value} {ds : List PyData}, vs.length = ds.length → (∀ (i : Nat) v d, vs[i]? = some v → ds[i]? = some d → ∃ as, Reads h v d as) → ∃ as, ReadsAll h vs ds as
  | [], [], _, _ => ⟨[], .nil⟩
  | [], _ :: _, e, _ => by simp at e
  | _ :: _, [], e, _ => by simp at e
  | v :: vs, d :: ds, e, r => by
    obtain ⟨as, ra⟩ := r 0 v d rfl rfl
    obtain ⟨bs, rb⟩ := readsAll_of (vs := vs) (ds := ds) (by simpa using e) fun i v' d' e1 e2 => r (i + 1) v' d' (by simpa using e1) (by simpa using e2)
    exact ⟨as ++ bs, .cons ra rb⟩
theorem Rd.reads {X : Vol} {h : Heap} {v : Value} {d : PyData} (r : Rd X h v d) : ∃ as, Reads h v d as := by
  induction r with
  | none => exact ⟨_, .none⟩
  | bool b => exact ⟨_, .bool b⟩
  | int i t => exact ⟨_, .int i t⟩
  | str x t => exact ⟨_, .str x t⟩
  | list hx hl hn _ ih =>
    obtain ⟨o, ho, hc, n, hd⟩ := hl
    obtain ⟨as, ra⟩ := readsAll_of hn ih
    exact ⟨_, .list ho hc hd (by simpa using ra)⟩
  | tuple hx hl hn _ ih =>
    obtain ⟨o, ho, hc, n, hd⟩ := hl
    obtain ⟨as, ra⟩ := readsAll_of hn ih
    exact ⟨_, .tuple ho hc hd (by simpa using ra)⟩

theorem Rd.intsAre {X : Vol} {h : Heap} : ∀ {vs : List Value} {ns : List Int}, RdAll X h vs (ns.map .int) → IntsAre vs ns
  | vs, [], r => by obtain rfl := RdAll.inv_nil (vs := vs) r; exact .nil
  | vs, n :: ns, r => by
    obtain ⟨v, vs', rfl, a, b⟩ := RdAll.inv_cons (d := .int n) (ds := ns.map .int) (by simpa using r)
    obtain ⟨t, rfl⟩ := a.int_inv
    exact .cons n t (Rd.intsAre b)

/-! ### data of a variable -/
structure WsIs (X : Vol) (h : Heap) (v : Value) (c : List Int) (b nt : Int) : Prop where
  ex : ∃ x dx sl es n vn t, v = .ref x ∧ ¬ X x ∧ ¬ X dx ∧ h.get? x = some ⟨.ref 83, some dx, .plain, sl⟩ ∧ h.get? dx = some (dictOf es n) ∧
    getL (Str.ofString "norm") es = some (some vn) ∧ Rd X h vn (.tuple [.tuple (c.map .int), .int b]) ∧ getL (Str.ofString "nt") es = some (some (.int nt t)) ∧
    (∀ f ∈ [Str.ofString "indent_level", Str.ofString "equal", Str.ofString "not_equal_witness", Str.ofString "longest_run_of_spaces"], getL f es = some none)

theorem WsIs.mono {X : Vol} {h h' : Heap} (k : Kx X h h') {v : Value} {c : List Int} {b nt : Int} (r : WsIs X h v c b nt) : WsIs X h' v c b nt := by
  obtain ⟨x, dx, sl, es, n, vn, t, e1, e2, e3, e4, e5, e6, e7, e8, e9⟩ := r.ex
  exact ⟨x, dx, sl, es, n, vn, t, e1, e2, e3, k _ _ e2 (.inr (.inr (.inr ⟨_, rfl⟩))) e4, k _ _ e3 (.inr (.inr (.inl rfl))) e5, e6, e7.mono k, e8, e9⟩
theorem WsIs.vol {X X' : Vol} {h : Heap} (k : ∀ a o, h.get? a = some o → X' a → X a) {v : Value} {c : List Int} {b nt : Int} (r : WsIs X h v c b nt) : WsIs X' h v c b nt := by
  obtain ⟨x, dx, sl, es, n, vn, t, e1, e2, e3, e4, e5, e6, e7, e8, e9⟩ := r.ex
  exact ⟨x, dx, sl, es, n, vn, t, e1, fun q => e2 (k _ _ e4 q), fun q => e3 (k _ _ e5 q), e4, e5, e6, e7.vol k, e8, e9⟩

inductive Dt
  | py (d : PyData)
  | ws (c : List Int) (b nt : Int)
  | val (v : Value)
  | own (h0 : Heap) (ds : List PyData)

/-- a list that was not there in h0 -/
structure OwnIs (X : Vol) (h0 h : Heap) (v : Value) (ds : List PyData) : Prop where
  ex : ∃ a vs, v = .ref a ∧ ¬ X a ∧ h0.get? a = none ∧ h.IsList a (List.toArray vs) ∧ RdAll X h vs ds

def RdT (X : Vol) (h : Heap) (v : Value) : Dt → Prop
  | .py d => Rd X h v d
  | .ws c b nt => WsIs X h v c b nt
  | .val u => v = u
  | .own h0 ds => OwnIs X h0 h v ds

theorem RdT.mono {X : Vol} {h h' : Heap} (k : Kx X h h') {v : Value} {d : Dt} (r : RdT X h v d) : RdT X h' v d := by
  cases d with
  | py d => exact Rd.mono k r
  | ws c b nt => exact WsIs.mono k r
  | val u => exact r
  | own h0 ds => obtain ⟨a, vs, e, hx, h0, ⟨o, ho, hc⟩, hr⟩ := r.ex; exact ⟨a, vs, e, hx, h0, ⟨o, k _ _ hx (.inl hc.1) ho, hc⟩, hr.mono k⟩
theorem RdT.vol {X X' : Vol} {h : Heap} (k : ∀ a o, h.get? a = some o → X' a → X a) {v : Value} {d : Dt} (r : RdT X h v d) : RdT X' h v d := by
  cases d with
  | py d => exact Rd.vol k r
  | ws c b nt => exact WsIs.vol k r
  | val u => exact r
  | own h0 ds => obtain ⟨a, vs, e, hx, h0, ⟨o, ho, hc⟩, hr⟩ := r.ex; exact ⟨a, vs, e, fun q => hx (k _ _ ho q), h0, ⟨o, ho, hc⟩, hr.vol k⟩

def RdTs (X : Vol) (h : Heap) : List Value → List Dt → Prop
  | [], [] => True
  | v :: vs, d :: ds => RdT X h v d ∧ RdTs X h vs ds
  | _, _ => False
theorem RdTs.mono {X : Vol} {h h' : Heap} (k : Kx X h h') : ∀ {vs : List Value} {ds : List Dt}, RdTs X h vs ds → RdTs X h' vs ds
  | [], [], _ => trivial
  | _ :: _, _ :: _, r => ⟨r.1.mono k, RdTs.mono k r.2⟩
  | [], _ :: _, r => r.elim
  | _ :: _, [], r => r.elim
theorem RdTs.vol {X X' : Vol} {h : Heap} (k : ∀ a o, h.get? a = some o → X' a → X a) : ∀ {vs : List Value} {ds : List Dt}, RdTs X h vs ds → RdTs X' h vs ds
  | [], [], _ => trivial
  | _ :: _, _ :: _, r => ⟨r.1.vol k, RdTs.vol k r.2⟩
  | [], _ :: _, r => r.elim
  | _ :: _, [], r => r.elim

/-! ### the module -/
structure Md (K : Frag) (mg mb : Str → Option Value) (h : Heap) : Prop where
  kin : K.In h
  g : h.Ns mainGlobals mg
  b : h.Ns builtinsNs mb
  nolim : h.NoLimit
theorem Md.keeps {K : Frag} {mg mb : Str → Option Value} {h h' : Heap} (m : Md K mg mb h) (k : h.StaysIn h') : Md K mg mb h' :=
  ⟨m.kin.keeps k, m.g.keeps k, m.b.keeps k, m.nolim.keeps k⟩

/-- what a call stands in: the volatile addresses, those that its own statements may write, the state at its entry -/
structure Cx where
  X : Vol
  W : Vol
  s₀ : Shared

structure St (C : Cx) (s : Shared) : Prop where
  old : C.s₀.heap.StaysIn s.heap
  os : s.os = C.s₀.os
  drawn : s.drawn = C.s₀.drawn
  gens : ∀ (i : Nat) x, C.s₀.gens[i]? = some x → s.gens[i]? = some x
  bare : AllBare s.gens
  xin : ∀ a, C.X a → ∃ o, s.heap.get? a = some o

structure EOk (K : Frag) (mg mb : Str → Option Value) (C : Cx) (env : Env) : Prop where
  md : Md K mg mb C.s₀.heap
  kind : env.scope.kind = .function
  glob : env.globals = mainGlobals
  bui : env.builtins = builtinsNs
  wl : C.W env.locals
  wx : ∀ a, C.W a → C.X a
  wnew : ∀ a, C.W a → C.s₀.heap.get? a = none
  cne : ∀ x c, env.cells.lookup x = some c → c ≠ env.locals
  capart : ∀ x y c, env.cells.lookup x = some c → env.cells.lookup y = some c → x = y
  cx : ∀ x c, env.cells.lookup x = some c → C.X c

abbrev Rho := List (Str × Dt)

def VarIs (X : Vol) (env : Env) (h : Heap) (m : Str → Option Value) (x : Str) (v : Value) : Prop :=
  (env.kindOf x = some .local ∧ m x = some v) ∨
  ((env.kindOf x = some .cell ∨ env.kindOf x = some .free) ∧ ∃ c, env.cells.lookup x = some c ∧ h.IsCell c (some v) ∧ X c ∧ c ≠ env.locals)

structure FB (C : Cx) (env : Env) (ρ : Rho) (s : Shared) : Prop extends St C s where
  cl : ∀ x c, env.cells.lookup x = some c → ∃ v, s.heap.IsCell c v
  fr : ∃ m, s.heap.Ns env.locals m ∧ ∀ x d, ρ.lookup x = some d → ∃ v, VarIs C.X env s.heap m x v ∧ RdT C.X s.heap v d

/-- nothing but the frame's dict L may differ -/
structure Ke (L : Addr) (s s' : Shared) : Prop where
  heap : ∀ b o, b ≠ L → s.heap.get? b = some o → s'.heap.get? b = some o
  gens : ∀ (i : Nat) x, s.gens[i]? = some x → s'.gens[i]? = some x
  ns : ∀ m, s.heap.Ns L m → s'.heap.Ns L m
theorem Ke.refl (L : Addr) (s : Shared) : Ke L s s := ⟨fun _ _ _ e => e, fun _ _ e => e, fun _ e => e⟩
theorem Ke.trans {L : Addr} {s s' s'' : Shared} (a : Ke L s s') (b : Ke L s' s'') : Ke L s s'' := ⟨fun c o n e => b.heap c o n (a.heap c o n e), fun i x e => b.gens i x (a.gens i x e), fun m e => b.ns m (a.ns m e)⟩
theorem Ke.tok {L : Addr} {s s' : Shared} {k : Nat} (a : Ke L s s') : Ke L s { s' with toks := k } := ⟨a.heap, a.gens, a.ns⟩
theorem Ke.kx {L : Addr} {s s' : Shared} {X : Vol} (a : Ke L s s') (hL : X L) : Kx X s.heap s'.heap := .of fun b o n e => a.heap b o (fun q => n (q ▸ hL)) e

/-- a heap that differs from h at most in the dict L, which says the same names -/
structure Kp (L : Addr) (h h' : Heap) : Prop where
  keep : ∀ b o, b ≠ L → h.get? b = some o → h'.get? b = some o
  ns : ∀ m, h.Ns L m → h'.Ns L m
theorem Kp.of_stays {L : Addr} {h h' : Heap} (k : h.StaysIn h') : Kp L h h' := ⟨fun b o _ e => k b o e, fun _ n => n.keeps k⟩
theorem Kp.refl (L : Addr) (h : Heap) : Kp L h h := ⟨fun _ _ _ e => e, fun _ e => e⟩

theorem FB.tok {C : Cx} {env : Env} {ρ : Rho} {s : Shared} (F : FB C env ρ s) (k : Nat) : FB C env ρ { s with toks := k } := ⟨⟨F.old, F.os, F.drawn, F.gens, F.bare, F.xin⟩, F.cl, F.fr⟩
theorem FB.step {K : Frag} {mg mb : Str → Option Value} {C : Cx} {env : Env} {ρ : Rho} {s : Shared} (e : EOk K mg mb C env) (F : FB C env ρ s) {h' : Heap} (k : Kp env.locals s.heap h') {tk : Nat} : FB C env ρ { s with heap := h', toks := tk } := by
  have hL : C.s₀.heap.get? env.locals = none := e.wnew _ e.wl
  refine ⟨⟨fun b o q => k.keep b o (fun z => ?_) (F.old b o q), F.os, F.drawn, F.gens, F.bare, fun a ha => ?_⟩, fun x c hc => ?_, ?_⟩
  · subst z; rw [hL] at q; cases q
  · obtain ⟨m, hm, _⟩ := F.fr
    by_cases z : a = env.locals
    · subst z; obtain ⟨o, _, _, ho, _⟩ := k.ns m hm; exact ⟨o, ho⟩
    · obtain ⟨o, ho⟩ := F.xin a ha; exact ⟨o, k.keep a o z ho⟩
  · obtain ⟨v, o, ho, hd⟩ := F.cl x c hc
    exact ⟨v, o, k.keep c o (e.cne x c hc) ho, hd⟩
  · obtain ⟨m, hm, hv⟩ := F.fr
    refine ⟨m, k.ns m hm, fun x d hx => ?_⟩
    obtain ⟨v, h1, h2⟩ := hv x d hx
    refine ⟨v, ?_, h2.mono (.of fun b o n q => k.keep b o (fun z => n (z ▸ e.wx _ e.wl)) q)⟩
    rcases h1 with h1 | ⟨h1, c, hc, ⟨o, ho, hd⟩, hx, hne⟩
    · exact .inl h1
    · exact .inr ⟨h1, c, hc, ⟨o, k.keep c o hne ho, hd⟩, hx, hne⟩
theorem Ke.step {L : Addr} {s : Shared} {h' : Heap} {tk : Nat} (k : Kp L s.heap h') : Ke L s { s with heap := h', toks := tk } := ⟨k.keep, fun _ _ e => e, k.ns⟩

end Mine

end
section
set_option Elab.async false
set_option maxRecDepth 100000
set_option autoImplicit false
set_option linter.unusedVariables false
namespace Mine
open PySem PySem.W PyProof.Rows PySem.Calls

structure Tx where
  prog : Program
  w : World
  K : Frag
  mg : Str → Option Value
  mb : Str → Option Value
  C : Cx
  A : Around
  env : Env
  n : Nat

structure AOk (A : Around) (n : Nat) : Prop where
  handled : A.handled = none
  depth : A.depth + n < recursionLimit
  units : A.units + 10 * n + 100 < cLine

structure Tx.Ok (T : Tx) : Prop extends EOk T.K T.mg T.mb T.C T.env, AOk T.A T.n

def EV (T : Tx) (ρ : Rho) (e : Expr) (d : Dt) : Prop := T.Ok → ∀ s Q E, FB T.C T.env ρ s →
  (∀ v s', FB T.C T.env ρ s' → Ke T.env.locals s s' → RdT T.C.X s'.heap v d → Q v s') → wpAny (model T.prog T.w) T.A (eval e T.env) Q E s

def OP (T : Tx) (t : Sem Value) (s : Shared) (d : Dt) : Prop := ∀ Q E,
  (∀ v h' tk, Kp T.env.locals s.heap h' → RdT T.C.X h' v d → Q v { s with heap := h', toks := tk }) → wpAny (model T.prog T.w) T.A t Q E s

/-! library rules that speak of Fr and News -/
def noHeap : Heap := {}
theorem noHeap_get (a : Addr) : noHeap.get? a = none := by
  cases e : noHeap.get? a with
  | none => rfl
  | some o => have := Heap.lt_size e; simp [noHeap] at this
noncomputable def allBut (L : Addr) (h : Heap) : List (Addr × Obj) := (List.range h.objs.size).filterMap fun a => if a = L then none else (h.get? a).map fun o => (a, o)
theorem mem_allBut {L : Addr} {h : Heap} {a : Addr} {o : Obj} : (a, o) ∈ allBut L h ↔ a ≠ L ∧ h.get? a = some o := by
  unfold allBut
  rw [List.mem_filterMap]
  constructor
  · rintro ⟨b, _, e⟩
    split at e
    · cases e
    · rename_i q
      obtain ⟨o', ho, e'⟩ := Option.map_eq_some_iff.mp e
      cases e'
      exact ⟨q, ho⟩
  · rintro ⟨q, e⟩
    refine ⟨a, List.mem_range.mpr (Heap.lt_size e), ?_⟩
    rw [if_neg q, e]; rfl
theorem fr_all {L : Addr} {h : Heap} {m : Str → Option Value} (n : h.Ns L m) : Fr noHeap L h m := ⟨n, fun b o e => (by rw [noHeap_get] at e; cases e), Nat.zero_le _⟩
theorem news_all (L : Addr) (h : Heap) : News noHeap L h (allBut L h) := fun p hp => by
  obtain ⟨a, o⟩ := p
  obtain ⟨q, e⟩ := mem_allBut.mp hp
  exact ⟨e, q, noHeap_get _⟩
theorem ns_unique {L : Addr} {h : Heap} {m m' : Str → Option Value} (a : h.Ns L m) (b : h.Ns L m') : m = m' := by
  obtain ⟨o, es, ep, ho, hd, _, hf⟩ := a
  obtain ⟨o', es', ep', ho', hd', _, hf'⟩ := b
  rw [ho] at ho'; cases ho'
  rw [hd] at hd'; cases hd'
  funext x
  rw [← hf, ← hf']
theorem kp_of {L : Addr} {h h' : Heap} {m : Str → Option Value} {news : List (Addr × Obj)} (n : h.Ns L m) (F : Fr noHeap L h' m) (N : News noHeap L h' news) (hs : ∀ p ∈ allBut L h, p ∈ news) : Kp L h h' :=
  ⟨fun b o q e => (N _ (hs _ (mem_allBut.mpr ⟨q, e⟩))).1, fun m' hm' => ns_unique n hm' ▸ F.ns⟩
theorem kp_tl {L : Addr} {h h' : Heap} {m : Str → Option Value} {p : Addr × Obj} (n : h.Ns L m) (F : Fr noHeap L h' m) (N : News noHeap L h' (p :: allBut L h)) : Kp L h h' := kp_of n F N fun _ hp => List.mem_cons_of_mem _ hp
theorem kp_eq {L : Addr} {h h' : Heap} {m : Str → Option Value} (n : h.Ns L m) (F : Fr noHeap L h' m) (N : News noHeap L h' (allBut L h)) : Kp L h h' := kp_of n F N fun _ hp => hp

section
variable {T : Tx} {ρ : Rho}

theorem EV.run {e : Expr} {d : Dt} (h : EV T ρ e d) (O : T.Ok) {s : Shared} {Q : Value → Shared → Prop} {E : Value → Shared → Prop} (F : FB T.C T.env ρ s)
    (k : ∀ v s', FB T.C T.env ρ s' → Ke T.env.locals s s' → RdT T.C.X s'.heap v d → Q v s') : wpAny (model T.prog T.w) T.A (eval e T.env) Q E s := h O s Q E F k

theorem Ke.rd {O : T.Ok} {s s' : Shared} (k : Ke T.env.locals s s') {v : Value} {d : Dt} (r : RdT T.C.X s.heap v d) : RdT T.C.X s'.heap v d := r.mono (k.kx (O.wx _ O.wl))
theorem Kp.rd (O : T.Ok) {h h' : Heap} (k : Kp T.env.locals h h') {v : Value} {d : Dt} (r : RdT T.C.X h v d) : RdT T.C.X h' v d := r.mono (.of fun b o n e => k.keep b o (fun q => n (q ▸ O.wx _ O.wl)) e)

theorem ev_bin {l r : Expr} {op : Operator} {pos : Pos} {d1 d2 d : Dt} (h1 : EV T ρ l d1) (h2 : EV T ρ r d2)
    (ho : T.Ok → ∀ s v1 v2, FB T.C T.env ρ s → RdT T.C.X s.heap v1 d1 → RdT T.C.X s.heap v2 d2 → OP T (binaryOp op v1 v2) s d) : EV T ρ (.BinOp l op r pos) d := by
  intro O s Q E F k
  refine wpAny_BinOp (h1 O s _ E F fun v1 s1 F1 K1 R1 => h2 O s1 _ E F1 fun v2 s2 F2 K2 R2 => ?_)
  refine ho O s2 v1 v2 F2 (Ke.rd (O := O) K2 R1) R2 Q E fun v h' tk kp R => ?_
  exact k v _ (F2.step O.toEOk kp) ((K1.trans K2).trans (.step kp)) R
theorem ev_cmp {l r : Expr} {op : CmpOp} {pos : Pos} {d1 d2 d : Dt} (h1 : EV T ρ l d1) (h2 : EV T ρ r d2)
    (ho : T.Ok → ∀ s v1 v2, FB T.C T.env ρ s → RdT T.C.X s.heap v1 d1 → RdT T.C.X s.heap v2 d2 → OP T (compareOp op v1 v2) s d) (hm : behindInMarks op r = false := by with_unfolding_all rfl) : EV T ρ (.Compare l [op] [r] pos) d := by
  intro O s Q E F k
  refine wpAny_Compare1 (h1 O s _ E F fun v1 s1 F1 K1 R1 => h2 O s1 _ E F1 fun v2 s2 F2 K2 R2 => ?_) hm
  refine ho O s2 v1 v2 F2 (Ke.rd (O := O) K2 R1) R2 Q E fun v h' tk kp R => ?_
  exact k v _ (F2.step O.toEOk kp) ((K1.trans K2).trans (.step kp)) R

theorem op_tok {t : Sem Value} {s : Shared} {v : Value} {d : Dt} (hr : ∀ h, RdT T.C.X h v d) (h : ∀ Q E, (∀ tk, Q v { s with toks := tk }) → wpAny (model T.prog T.w) T.A t Q E s) : OP T t s d :=
  fun Q E k => h Q E fun tk => k v s.heap tk (.refl _ _) (hr _)

/-! names and constants -/
theorem ev_int {i : Int} {k : Nat} {pos : Pos} : EV T ρ (.Constant (.int i) k pos) (.py (.int i)) := fun O s Q E F k' =>
  wpAny_Constant_int (k' _ _ (F.tok _) (Ke.tok (.refl _ _)) (Rd.int _ _))
theorem ev_str {x : Str} {k : Nat} {pos : Pos} : EV T ρ (.Constant (.str x) k pos) (.py (.str x)) := fun O s Q E F k' =>
  Constant_str (k' _ _ (F.tok _) (Ke.tok (.refl _ _)) (Rd.str _ _))
theorem ev_none {k : Nat} {pos : Pos} : EV T ρ (.Constant .none k pos) (.py .none) := fun O s Q E F k' =>
  (fun _ _ _ => k' _ _ F (.refl _ _) Rd.none : wpAny (model T.prog T.w) T.A (eval (.Constant .none k pos) T.env) Q E s)
theorem ev_name {x : Str} {pos : Pos} {d : Dt} (hx : ρ.lookup x = some d) (hd : (x == ("__debug__" : Str)) = false := by rfl) (hc : (x == ("__classdict__" : Str)) = false := by rfl) : EV T ρ (.Name x pos) d := by
  intro O s Q E F k
  obtain ⟨m, hm, hv⟩ := F.fr
  obtain ⟨v, hv, hr⟩ := hv x d hx
  refine wpAny_Name ?_ hd
  rcases hv with ⟨h1, h2⟩ | ⟨h1, c, hc1, hc2, _, _⟩
  · exact wpAny_loadName_local O.kind h1 hm h2 (k v s F (.refl _ _) hr)
  · rcases h1 with h1 | h1
    · exact wpAny_loadName_cell O.kind h1 hc1 hc2 (k v s F (.refl _ _) hr)
    · exact wpAny_loadName_free O.kind h1 hc1 hc2 (k v s F (.refl _ _) hr) hc
theorem ev_glob {x : Str} {pos : Pos} {v : Value} (hg : T.mg x = some v) (hx : T.env.kindOf x = some .globalImplicit) (hd : (x == ("__debug__" : Str)) = false := by rfl) : EV T ρ (.Name x pos) (.val v) := by
  intro O s Q E F k
  exact Name_function_global O.kind hx (loadGlobal_global (by rw [O.glob]; exact O.md.g.keeps F.old) hg (k v s F (.refl _ _) rfl)) hd
theorem ev_bui {x : Str} {pos : Pos} {v : Value} (hg : T.mg x = none) (hb : T.mb x = some v) (hx : T.env.kindOf x = some .globalImplicit) (hd : (x == ("__debug__" : Str)) = false := by rfl) : EV T ρ (.Name x pos) (.val v) := by
  intro O s Q E F k
  exact Name_function_global O.kind hx (loadGlobal_builtin (by rw [O.glob]; exact O.md.g.keeps F.old) hg (by rw [O.bui]; exact O.md.b.keeps F.old) hb (k v s F (.refl _ _) rfl)) hd

/-! ints -/
theorem ev_add {l r : Expr} {pos : Pos} {a b : Int} (h1 : EV T ρ l (.py (.int a))) (h2 : EV T ρ r (.py (.int b))) : EV T ρ (.BinOp l .Add r pos) (.py (.int (a + b))) :=
  ev_bin h1 h2 fun O s v1 v2 F r1 r2 => by
    obtain ⟨t, rfl⟩ := Rd.int_inv r1; obtain ⟨u, rfl⟩ := Rd.int_inv r2
    exact fun Q E k => add_int (k _ s.heap _ (.refl _ _) (Rd.int _ _))
theorem ev_sub {l r : Expr} {pos : Pos} {a b : Int} (h1 : EV T ρ l (.py (.int a))) (h2 : EV T ρ r (.py (.int b))) : EV T ρ (.BinOp l .Sub r pos) (.py (.int (a - b))) :=
  ev_bin h1 h2 fun O s v1 v2 F r1 r2 => by
    obtain ⟨t, rfl⟩ := Rd.int_inv r1; obtain ⟨u, rfl⟩ := Rd.int_inv r2
    exact fun Q E k => PyProof.Rows.sub_int (k _ s.heap _ (.refl _ _) (Rd.int _ _))
theorem ev_subB {l r : Expr} {pos : Pos} {a b : Bool} (h1 : EV T ρ l (.py (.bool a))) (h2 : EV T ρ r (.py (.bool b))) : EV T ρ (.BinOp l .Sub r pos) (.py (.int (b2i a - b2i b))) :=
  ev_bin h1 h2 fun O s v1 v2 F r1 r2 => by
    obtain rfl := Rd.bool_inv r1; obtain rfl := Rd.bool_inv r2
    exact fun Q E k => sub_bool (k _ s.heap _ (.refl _ _) (Rd.int _ _))
theorem marks_of {op : CmpOp} (h : op ≠ .In) (h' : op ≠ .NotIn) (r : Expr) : behindInMarks op r = false := by
  cases op <;> first | exact absurd rfl h | exact absurd rfl h' | (cases r <;> first | rfl | simp [behindInMarks])
theorem ev_gtS {l r : Expr} {pos : Pos} {a b : Str} (h1 : EV T ρ l (.py (.str a))) (h2 : EV T ρ r (.py (.str b))) : EV T ρ (.Compare l [.Gt] [r] pos) (.py (.bool (decide (b.cps.toList < a.cps.toList)))) :=
  ev_cmp h1 h2 (hm := marks_of (by decide) (by decide) r) fun O s v1 v2 F r1 r2 => by
    obtain ⟨t, rfl⟩ := Rd.str_inv r1; obtain ⟨u, rfl⟩ := Rd.str_inv r2
    exact fun Q E k => PySem.P.gt_str (k _ s.heap _ (.refl _ _) (Rd.bool _))
theorem ev_ltS {l r : Expr} {pos : Pos} {a b : Str} (h1 : EV T ρ l (.py (.str a))) (h2 : EV T ρ r (.py (.str b))) : EV T ρ (.Compare l [.Lt] [r] pos) (.py (.bool (decide (a.cps.toList < b.cps.toList)))) :=
  ev_cmp h1 h2 (hm := marks_of (by decide) (by decide) r) fun O s v1 v2 F r1 r2 => by
    obtain ⟨t, rfl⟩ := Rd.str_inv r1; obtain ⟨u, rfl⟩ := Rd.str_inv r2
    exact fun Q E k => PySem.P.lt_str (k _ s.heap _ (.refl _ _) (Rd.bool _))

/-! tests -/
def TV (T : Tx) (ρ : Rho) (e : Expr) (b : Bool) : Prop := T.Ok → ∀ s Q E, FB T.C T.env ρ s →
  (∀ s', FB T.C T.env ρ s' → Ke T.env.locals s s' → Q b s') → wpAny (model T.prog T.w) T.A (isTrue e T.env (eval e T.env)) Q E s

theorem tv_cmp {l r : Expr} {op : CmpOp} {pos : Pos} {d1 d2 : Dt} {b : Bool} (h1 : EV T ρ l d1) (h2 : EV T ρ r d2)
    (ho : T.Ok → ∀ s v1 v2, FB T.C T.env ρ s → RdT T.C.X s.heap v1 d1 → RdT T.C.X s.heap v2 d2 → OP T (compareOp op v1 v2) s (.py (.bool b))) (hm : behindInMarks op r = false := by with_unfolding_all rfl) : TV T ρ (.Compare l [op] [r] pos) b := by
  intro O s Q E F k
  refine wpAny_isTrue_Compare1 (h1 O s _ E F fun v1 s1 F1 K1 R1 => h2 O s1 _ E F1 fun v2 s2 F2 K2 R2 => ?_) hm
  refine ho O s2 v1 v2 F2 (Ke.rd (O := O) K2 R1) R2 _ E fun v h' tk kp R => ?_
  obtain rfl := Rd.bool_inv R
  exact wpAny_truthy_bool (k _ (F2.step O.toEOk kp) ((K1.trans K2).trans (.step kp)))
theorem tv_plain {e : Expr} {b : Bool} (h : EV T ρ e (.py (.bool b)))
    (hp : isTrue e T.env (eval e T.env) = (do let v ← eval e T.env; standAt e.pos; holding [v] (truthy v)) := by rfl) : TV T ρ e b := by
  intro O s Q E F k
  refine isTrue_plain (h O s _ E F fun v s1 F1 K1 R1 => ?_) hp
  obtain rfl := Rd.bool_inv R1
  exact wpAny_truthy_bool (k _ F1 K1)
theorem isTrue_not_eq {env : Env} {x : Expr} {pos : Pos} {whole : Sem Value} : isTrue (.UnaryOp .Not x pos) env whole = (do return !(← isTrue x env (eval x env))) := rfl
theorem tv_not {x : Expr} {pos : Pos} {b : Bool} (h : TV T ρ x b) : TV T ρ (.UnaryOp .Not x pos) (!b) := by
  intro O s Q E F k
  rw [isTrue_not_eq]
  exact wpAny_bind (h O s _ E F fun s1 F1 K1 => wpAny_pure (k s1 F1 K1))

/-! statements -/
/-- what a block of a frame may have changed: addresses of W alone -/
structure Kw (W : Vol) (s s' : Shared) : Prop where
  heap : ∀ b o, ¬ W b → s.heap.get? b = some o → s'.heap.get? b = some o
  gens : ∀ (i : Nat) x, s.gens[i]? = some x → s'.gens[i]? = some x
theorem Kw.refl (W : Vol) (s : Shared) : Kw W s s := ⟨fun _ _ _ e => e, fun _ _ e => e⟩
theorem Kw.trans {W : Vol} {s s' s'' : Shared} (a : Kw W s s') (b : Kw W s' s'') : Kw W s s'' := ⟨fun c o n e => b.heap c o n (a.heap c o n e), fun i x e => b.gens i x (a.gens i x e)⟩
theorem Ke.kw {L : Addr} {W : Vol} {s s' : Shared} (a : Ke L s s') (h : W L) : Kw W s s' := ⟨fun b o n e => a.heap b o (fun q => n (q ▸ h)) e, a.gens⟩

theorem ex_nil {Q : Flow → Shared → Prop} {E : Value → Shared → Prop} {s : Shared} (h : Q .next s) : wpAny (model T.prog T.w) T.A (execs [] T.env) Q E s := wpAny_execs_nil h
theorem ex_return {e : Expr} {pos : Pos} {rest : List Stmt} {d : Dt} {Q : Flow → Shared → Prop} {E : Value → Shared → Prop} {s : Shared} (O : T.Ok) (F : FB T.C T.env ρ s) (h : EV T ρ e d)
    (k : ∀ v s', FB T.C T.env ρ s' → Ke T.env.locals s s' → RdT T.C.X s'.heap v d → Q (.ret v) s') : wpAny (model T.prog T.w) T.A (execs (.Return (some e) pos :: rest) T.env) Q E s :=
  wpAny_execs_cons (wpAny_Return_some (h O s _ E F fun v s' F' K' R' => k v s' F' K' R'))
theorem ex_if {test : Expr} {body orelse rest : List Stmt} {pos : Pos} {b : Bool} {Q : Flow → Shared → Prop} {E : Value → Shared → Prop} {s : Shared} (O : T.Ok) (F : FB T.C T.env ρ s) (h : TV T ρ test b)
    (k1 : b = true → ∀ s', FB T.C T.env ρ s' → Ke T.env.locals s s' → wpAny (model T.prog T.w) T.A (execs body T.env) (fun f s'' => match f with | .next => wpAny (model T.prog T.w) T.A (execs rest T.env) Q E s'' | f => Q f s'') E s')
    (k2 : b = false → ∀ s', FB T.C T.env ρ s' → Ke T.env.locals s s' → wpAny (model T.prog T.w) T.A (execs orelse T.env) (fun f s'' => match f with | .next => wpAny (model T.prog T.w) T.A (execs rest T.env) Q E s'' | f => Q f s'') E s') :
    wpAny (model T.prog T.w) T.A (execs (.If test body orelse pos :: rest) T.env) Q E s := by
  refine wpAny_execs_cons (wpAny_If (h O s _ E F fun s' F' K' => ?_))
  cases b with
  | true => simp only [if_true]; exact k1 rfl s' F' K'
  | false => simp only [Bool.false_eq_true, if_false]; exact k2 rfl s' F' K'

theorem FB.store {C : Cx} {env : Env} {s : Shared} {K : Frag} {mg mb : Str → Option Value} (e : EOk K mg mb C env) (F : FB C env ρ s) {x : Str} {v : Value} {d : Dt} (hx : env.kindOf x = some .local) (hr : RdT C.X s.heap v d)
    {m : Str → Option Value} (hm : s.heap.Ns env.locals m) {h' : Heap} {tk : Nat} (hn : h'.Ns env.locals (fun y => if y = x then some v else m y)) (hs : Heap.SameBut env.locals s.heap h') : FB C env ((x, d) :: ρ) { s with heap := h', toks := tk } := by
  have hL : C.s₀.heap.get? env.locals = none := e.wnew _ e.wl
  have kk : Kx C.X s.heap h' := .of fun b o n q => hs.extBut b o (fun z => n (z ▸ e.wx _ e.wl)) q
  refine ⟨⟨fun b o q => hs.extBut b o (fun z => ?_) (F.old b o q), F.os, F.drawn, F.gens, F.bare, fun a ha => ?_⟩, fun x c hc => ?_, _, hn, fun y d' hy => ?_⟩
  · subst z; rw [hL] at q; cases q
  · by_cases z : a = env.locals
    · subst z; obtain ⟨o, _, _, ho, _⟩ := hn; exact ⟨o, ho⟩
    · obtain ⟨o, ho⟩ := F.xin a ha; exact ⟨o, hs.extBut a o z ho⟩
  · obtain ⟨v, o, ho, hd⟩ := F.cl x c hc
    exact ⟨v, o, hs.extBut c o (e.cne x c hc) ho, hd⟩
  · rw [List.lookup_cons] at hy
    by_cases q : y = x
    · subst q
      simp only [beq_self_eq_true] at hy
      cases hy
      exact ⟨v, .inl ⟨hx, by simp⟩, hr.mono kk⟩
    · have q' : (y == x) = false := by simpa using q
      rw [q'] at hy
      obtain ⟨m', hm', hv⟩ := F.fr
      obtain rfl := ns_unique hm hm'
      obtain ⟨u, h1, h2⟩ := hv y d' hy
      refine ⟨u, ?_, h2.mono kk⟩
      rcases h1 with h1 | ⟨h1, c, hc, ⟨o, ho, hd⟩, hX, hne⟩
      · exact .inl ⟨h1.1, by simp [q, h1.2]⟩
      · exact .inr ⟨h1, c, hc, ⟨o, hs.extBut c o hne ho, hd⟩, hX, hne⟩

/-- a name that the frame may store: a local, or a cell of its own -/
def SW (T : Tx) : Vol := fun b => T.C.W b ∧ (b = T.env.locals ∨ ∃ x, T.env.cells.lookup x = some b)
def STO (T : Tx) (x : Str) : Prop := T.env.kindOf x = some .local ∨ (T.env.kindOf x = some .cell ∧ ∃ c, T.env.cells.lookup x = some c ∧ T.C.W c)

theorem Kw.mono {W W' : Vol} {s s' : Shared} (k : Kw W s s') (h : ∀ b, W b → W' b) : Kw W' s s' := ⟨fun b o n e => k.heap b o (fun q => n (h b q)) e, k.gens⟩
theorem Kw.sw {s s' : Shared} (k : Kw (SW T) s s') : Kw T.C.W s s' := k.mono fun _ q => q.1
theorem Ke.sw {s s' : Shared} (O : T.Ok) (k : Ke T.env.locals s s') : Kw (SW T) s s' := k.kw ⟨O.wl, .inl rfl⟩
theorem st_name {x : Str} {v : Value} {d : Dt} {Q : Unit → Shared → Prop} {E : Value → Shared → Prop} {s : Shared} (O : T.Ok) (F : FB T.C T.env ρ s) (hr : RdT T.C.X s.heap v d)
    (k : ∀ s', FB T.C T.env ((x, d) :: ρ) s' → Kw (SW T) s s' → Q () s') (hx : STO T x) : wpAny (model T.prog T.w) T.A (storeName T.env x v) Q E s := by
  rcases hx with hx | ⟨hx, c, hc, hw⟩
  · obtain ⟨m, hm, _⟩ := F.fr
    exact wpAny_storeName_local hx hm (fun h' hn hs => k _ (F.store O.toEOk hx hr hm hn hs) ⟨fun b o n q => hs.extBut b o (fun z => n (z ▸ ⟨O.wl, .inl rfl⟩)) q, fun _ _ e => e⟩) (by rw [O.kind]; rfl)
  · obtain ⟨v₀, hv₀⟩ := F.cl x c hc
    refine wpAny_storeName_cell O.kind hx hc hv₀ fun h' hcell hs => k _ ?_ ⟨fun b o n q => hs.extBut b o (fun z => n (z ▸ ⟨hw, .inr ⟨x, hc⟩⟩)) q, fun _ _ e => e⟩
    have hL : T.C.s₀.heap.get? c = none := O.wnew _ hw
    have hne : c ≠ T.env.locals := O.cne x c hc
    have kk : Kx T.C.X s.heap h' := .of fun b o n q => hs.extBut b o (fun z => n (z ▸ O.wx _ hw)) q
    refine ⟨⟨fun b o q => hs.extBut b o (fun z => ?_) (F.old b o q), F.os, F.drawn, F.gens, F.bare, fun a ha => ?_⟩, fun y c' hc' => ?_, ?_⟩
    · subst z; rw [hL] at q; cases q
    · by_cases z : a = c
      · subst z; obtain ⟨o, ho, _⟩ := hcell; exact ⟨o, ho⟩
      · obtain ⟨o, ho⟩ := F.xin a ha; exact ⟨o, hs.extBut a o z ho⟩
    · by_cases z : c' = c
      · subst z; exact ⟨_, hcell⟩
      · obtain ⟨u, o, ho, hd⟩ := F.cl y c' hc'; exact ⟨u, o, hs.extBut c' o z ho, hd⟩
    · obtain ⟨m, hm, hv⟩ := F.fr
      refine ⟨m, hm.sameBut hs (Ne.symm hne), fun y d' hy => ?_⟩
      rw [List.lookup_cons] at hy
      by_cases q : y = x
      · subst q
        simp only [beq_self_eq_true] at hy
        cases hy
        exact ⟨v, .inr ⟨.inl hx, c, hc, hcell, O.wx _ hw, hne⟩, hr.mono kk⟩
      · have q' : (y == x) = false := by simpa using q
        rw [q'] at hy
        obtain ⟨u, h1, h2⟩ := hv y d' hy
        refine ⟨u, ?_, h2.mono kk⟩
        rcases h1 with h1 | ⟨h1, c', hc', ⟨o, ho, hd⟩, hX, hne'⟩
        · exact .inl h1
        · exact .inr ⟨h1, c', hc', ⟨o, hs.extBut c' o (fun z => q (O.capart y x c (z ▸ hc') hc)) ho, hd⟩, hX, hne'⟩

theorem ex_assign {x : Str} {pos' pos : Pos} {e : Expr} {rest : List Stmt} {d : Dt} {Q : Flow → Shared → Prop} {E : Value → Shared → Prop} {s : Shared} (O : T.Ok) (F : FB T.C T.env ρ s) (h : EV T ρ e d) (hx : STO T x)
    (k : ∀ s', FB T.C T.env ((x, d) :: ρ) s' → Kw (SW T) s s' → wpAny (model T.prog T.w) T.A (execs rest T.env) Q E s')
    (hs : swapsWith e (some (.Name x pos')) pos.line T.env = pure false := by rfl) : wpAny (model T.prog T.w) T.A (execs (.Assign [.Name x pos'] e pos :: rest) T.env) Q E s := by
  refine wpAny_execs_cons (wpAny_Assign_Name (h O s _ E F fun v s1 F1 K1 R1 => ?_) hs)
  exact st_name O F1 R1 (fun s' F' K' => k s' F' ((K1.kw ⟨O.wl, .inl rfl⟩).trans K')) hx

/-! contracts -/
structure Gr (s s' : Shared) : Prop where
  heap : s.heap.StaysIn s'.heap
  os : s'.os = s.os
  drawn : s'.drawn = s.drawn
  gens : ∀ (i : Nat) x, s.gens[i]? = some x → s'.gens[i]? = some x
  bare : AllBare s'.gens

/-- the call of f upon these data hands back r, whatever else stands, and leaves all that stood -/
def CT (prog : Program) (w : World) (K : Frag) (mg mb : Str → Option Value) (n : Nat) (f : Value) (ds : List Dt) (r : Dt) : Prop :=
  ∀ (X : Vol) (A : Around) (s : Shared) (vs : List Value) (Q E : Value → Shared → Prop), Md K mg mb s.heap → AOk A n → AllBare s.gens → (∀ a, X a → ∃ o, s.heap.get? a = some o) → RdTs X s.heap vs ds →
    (∀ v s', Gr s s' → RdT X s'.heap v r → Q v s') → wpAny (model prog w) A (call f vs) Q E s
end
end Mine

end
section
set_option Elab.async false
set_option maxRecDepth 100000
set_option autoImplicit false
set_option linter.unusedVariables false
namespace Mine
open PySem PySem.W PyProof.Rows PySem.Calls

theorem lookup_cells_mono {x : Str} : ∀ (names : List (Str × NameKind)) (n : Nat) (acc : List (Str × Addr)), (acc.lookup x).isSome = true → ((cellsFrom n names acc).lookup x).isSome = true
  | [], _, _, h => h
  | (m, k) :: r, n, acc, h => by
    unfold cellsFrom
    split
    · refine lookup_cells_mono r _ _ ?_
      rw [List.lookup_cons]
      split
      · rfl
      · exact h
    · exact lookup_cells_mono r _ _ h
theorem lookup_cells {x : Str} : ∀ (names : List (Str × NameKind)) (n : Nat) (acc : List (Str × Addr)), names.lookup x = some .cell → ((cellsFrom n names acc).lookup x).isSome = true
  | [], _, _, h => by cases h
  | (m, k) :: r, n, acc, h => by
    unfold cellsFrom
    rw [List.lookup_cons] at h
    split at h
    · rename_i q
      cases h
      rw [if_pos (by rfl)]
      refine lookup_cells_mono r _ _ ?_
      rw [List.lookup_cons, q]; rfl
    · split
      · exact lookup_cells r _ _ h
      · exact lookup_cells r _ _ h

theorem bindL_off {kindOf : Str → Option NameKind} {x : Str} : ∀ (binds : List (Str × Value)) (m : Str → Option Value), x ∉ binds.map (·.1) → bindL kindOf binds m x = m x
  | [], _, _ => rfl
  | (n, v) :: r, m, h => by
    simp only [List.map_cons, List.mem_cons, not_or] at h
    unfold bindL
    rw [bindL_off r _ h.2]
    split
    · simp [h.1]
    · rfl
theorem bindC_off {kindOf : Str → Option NameKind} {x : Str} : ∀ (binds : List (Str × Value)) (m : Str → Option Value), x ∉ binds.map (·.1) → bindC kindOf binds m x = m x
  | [], _, _ => rfl
  | (n, v) :: r, m, h => by
    simp only [List.map_cons, List.mem_cons, not_or] at h
    unfold bindC
    rw [bindC_off r _ h.2]
    split
    · rfl
    · simp [h.1]
theorem bindL_in {kindOf : Str → Option NameKind} {x : Str} {v : Value} (hk : kindOf x = some .local) : ∀ (binds : List (Str × Value)) (m : Str → Option Value), (binds.map (·.1)).Nodup → (x, v) ∈ binds → bindL kindOf binds m x = some v
  | [], _, _, h => by cases h
  | (n, u) :: r, m, hn, h => by
    simp only [List.map_cons, List.nodup_cons] at hn
    unfold bindL
    rcases List.mem_cons.mp h with h | h
    · cases h
      rw [bindL_off r _ hn.1, if_pos hk]; simp
    · exact bindL_in hk r _ hn.2 h
theorem bindC_in {kindOf : Str → Option NameKind} {x : Str} {v : Value} (hk : kindOf x ≠ some .local) : ∀ (binds : List (Str × Value)) (m : Str → Option Value), (binds.map (·.1)).Nodup → (x, v) ∈ binds → bindC kindOf binds m x = some v
  | [], _, _, h => by cases h
  | (n, u) :: r, m, hn, h => by
    simp only [List.map_cons, List.nodup_cons] at hn
    unfold bindC
    rcases List.mem_cons.mp h with h | h
    · cases h
      rw [bindC_off r _ hn.1, if_neg hk]; simp
    · exact bindC_in hk r _ hn.2 h
theorem zip_find {X : Vol} {h : Heap} {x : Str} {d : Dt} : ∀ {names : List Str} {vs : List Value} {ds : List Dt}, RdTs X h vs ds → (names.zip ds).lookup x = some d → ∃ v, (x, v) ∈ names.zip vs ∧ RdT X h v d
  | [], _, _, _, e => by simp at e
  | n :: names, [], [], _, e => by simp at e
  | n :: names, v :: vs, d' :: ds, r, e => by
    rw [List.zip_cons_cons, List.lookup_cons] at e
    split at e
    · rename_i q
      cases e
      have : x = n := by simpa using q
      subst this
      exact ⟨v, by simp, r.1⟩
    · obtain ⟨u, h1, h2⟩ := zip_find r.2 e
      exact ⟨u, by simp [h1], h2⟩
  | _ :: _, [], _ :: _, r, _ => r.elim
  | _ :: _, _ :: _, [], r, _ => r.elim
theorem RdTs.length {X : Vol} {h : Heap} : ∀ {vs : List Value} {ds : List Dt}, RdTs X h vs ds → vs.length = ds.length
  | [], [], _ => rfl
  | _ :: _, _ :: _, r => by simp [RdTs.length r.2]
  | [], _ :: _, r => r.elim
  | _ :: _, [], r => r.elim

/-- the context of a call of the def fd at address f: its frame lies at L -/
def cxOf (X : Vol) (fd : FuncData) (L f : Addr) (s : Shared) : Cx where
  X := fun a => X a ∨ a = L ∨ ∃ x, (callEnvC fd L f).cells.lookup x = some a
  W := fun a => a = L ∨ ∃ x, (callEnvC fd L f).cells.lookup x = some a
  s₀ := s

/-- what is looked up of a def once -/
structure FnOk (K : Frag) (f : Addr) (fd : FuncData) (names : List Str) (body : List Stmt) : Prop where
  at_ : ∃ o, K.lookup f = some o ∧ o.data = .func fd
  code : codeIn K fd.code fd.qualname = true
  body : fd.body = .stmts body
  closure : fd.closure = []
  glob : fd.globals = mainGlobals
  bui : fd.builtins = builtinsNs
  kind : fd.scope.kind = .function
  co : fd.scope.isCoroutine = false
  gen : fd.scope.isGenerator = false
  binds : ∀ vs : List Value, vs.length = names.length → bindArgs fd ⟨vs, []⟩ = pure (names.zip vs)
  nodup : names.Nodup
  kinds : ∀ x ∈ names, fd.scope.names.lookup x = some .local ∨ fd.scope.names.lookup x = some .cell

theorem ct_def {prog : Program} {w : World} {K : Frag} {mg mb : Str → Option Value} {n : Nat} {f : Addr} {fd : FuncData} {names : List Str} {body : List Stmt} {ds : List Dt} {r : Dt} (H : FnOk K f fd names body) (hlen : names.length = ds.length)
    (hb : ∀ (X : Vol) (A : Around) (L : Addr) (s₀ s : Shared) (E : Value → Shared → Prop), (Tx.mk prog w K mg mb (cxOf X fd L f s₀) A (callEnvC fd L f) n).Ok → FB (cxOf X fd L f s₀) (callEnvC fd L f) (names.zip ds) s →
      wpAny (model prog w) A (execs body (callEnvC fd L f)) (fun fl s' => ∃ v, fl = .ret v ∧ St (cxOf X fd L f s₀) s' ∧ RdT (cxOf X fd L f s₀).X s'.heap v r) E s) : CT prog w K mg mb (n + 1) (.ref f) ds r := by
  intro X A s vs Q E M0 A0 hbare hX hr k
  obtain ⟨o, ho, hd⟩ := H.at_
  have hvl : vs.length = names.length := by rw [hr.length, hlen]
  refine wpAny_call (codeAny_call_cells (by have := A0.depth; omega) (M0.kin _ _ ho) hd M0.nolim (codeRec_of M0.kin H.code) H.body (H.binds vs hvl) H.closure ?_ (fun s₁ I => ?_) H.co H.gen H.kind)
  · intro x hx
    have hn : x.1 ∈ names := (List.of_mem_zip hx).1
    rcases H.kinds _ hn with q | q
    · exact .inl q
    · exact .inr ⟨q, lookup_cells _ _ _ q⟩
  · have hm : ∀ x v, (x, v) ∈ names.zip vs → x ∈ names := fun x v q => (List.of_mem_zip q).1
    obtain ⟨h₁, tk, es⟩ := I.toInCall.same
    have hL : ∀ a, (cxOf X fd s.heap.objs.size f s).W a → s.heap.get? a = none := by
      intro a ha
      cases q : s.heap.get? a with
      | none => rfl
      | some o' =>
        have := Heap.lt_size q
        rcases ha with ha | ⟨x, hx⟩
        · subst ha; exact absurd this (Nat.lt_irrefl _)
        · have h2 := I.above x a (mem_of_lookup hx)
          exact absurd (Nat.lt_trans this h2) (Nat.lt_irrefl _)
    have hvol : ∀ a o, s.heap.get? a = some o → (cxOf X fd s.heap.objs.size f s).X a → X a := by
      intro a o' q ha
      rcases ha with ha | ha
      · exact ha
      · have := hL a ha; rw [q] at this; cases this
    have O : (Tx.mk prog w K mg mb (cxOf X fd s.heap.objs.size f s) (A.deeper (callEnvC fd s.heap.objs.size f)) (callEnvC fd s.heap.objs.size f) n).Ok :=
      { md := M0, kind := H.kind, glob := H.glob, bui := H.bui, wl := .inl rfl, wx := fun a ha => .inr ha, wnew := hL
        cne := fun x c hc => Nat.ne_of_gt (I.above x c (mem_of_lookup hc))
        capart := fun x y c h1 h2 => name_of_addr I.apart (mem_of_lookup h1) (mem_of_lookup h2)
        cx := fun x c hc => .inr (.inr ⟨x, hc⟩)
        handled := A0.handled
        depth := by have := A0.depth; show A.depth + 1 + n < recursionLimit; omega
        units := by have := A0.units; show A.units + 3 + 10 * n + 100 < cLine; omega }
    have F : FB (cxOf X fd s.heap.objs.size f s) (callEnvC fd s.heap.objs.size f) (names.zip ds) s₁ := by
      refine ⟨⟨I.toInCall.keep, by rw [es]; rfl, by rw [es]; rfl, by rw [es]; exact fun _ _ e => e, by rw [es]; exact hbare, fun a ha => ?_⟩, fun x c hc => ⟨_, I.cell x c hc⟩, _, I.toInCall.ns, fun x d hx => ?_⟩
      · rcases ha with ha | ha | ⟨x, hx⟩
        · obtain ⟨o', h'⟩ := hX a ha; exact ⟨o', I.toInCall.keep _ _ h'⟩
        · subst ha; obtain ⟨o', _, _, h', _⟩ := I.toInCall.ns; exact ⟨o', h'⟩
        · obtain ⟨o', h', _⟩ := I.cell x a hx; exact ⟨o', h'⟩
      · obtain ⟨v, h1, h2⟩ := zip_find hr hx
        have hnd : ((names.zip vs).map (·.1)).Nodup := by rw [List.map_fst_zip (Nat.le_of_eq hvl.symm)]; exact H.nodup
        refine ⟨v, ?_, (h2.vol hvol).mono (.of_stays I.toInCall.keep)⟩
        rcases H.kinds x (hm _ _ h1) with q | q
        · exact .inl ⟨q, bindL_in q _ _ hnd h1⟩
        · have q' : (callEnvC fd s.heap.objs.size f).kindOf x = some .cell := q
          obtain ⟨c, hc⟩ := Option.isSome_iff_exists.mp (lookup_cells (x := x) fd.scope.names (s.heap.objs.size + 1) [] q)
          have hc' : (callEnvC fd s.heap.objs.size f).cells.lookup x = some c := hc
          have hcell := I.cell x c hc'
          rw [bindC_in (by rw [q']; intro z; cases z) _ _ hnd h1] at hcell
          exact .inr ⟨.inl q', c, hc', hcell, .inr (.inr ⟨x, hc'⟩), Nat.ne_of_gt (I.above x c (mem_of_lookup hc'))⟩
    refine wpAny_mono (hb X _ _ s s₁ _ O F) (fun fl s' h' => ?_) fun _ _ e => e
    obtain ⟨v, rfl, S, R⟩ := h'
    exact k v s' ⟨S.old, S.os, S.drawn, S.gens, S.bare⟩ (R.vol fun a o _ ha => .inl ha)

section
variable {T : Tx} {ρ : Rho}

/-! calls -/
def EVs (T : Tx) (ρ : Rho) (es : List Expr) (ds : List Dt) : Prop := T.Ok → ∀ pos s (Q : List Value → Shared → Prop) E, FB T.C T.env ρ s →
  (∀ vs s', FB T.C T.env ρ s' → Ke T.env.locals s s' → RdTs T.C.X s'.heap vs ds → Q vs s') → wpAny (model T.prog T.w) T.A (spliced (backTo pos (starEach es T.env))) Q E s
theorem evs_nil : EVs T ρ [] [] := fun O pos s Q E F k => spliced_nil (k [] s F (.refl _ _) trivial)
theorem evs_cons {e : Expr} {es : List Expr} {d : Dt} {ds : List Dt} (h1 : EV T ρ e d) (h2 : EVs T ρ es ds) (he : starEach (e :: es) T.env = (false, eval e T.env) :: starEach es T.env := by rfl) : EVs T ρ (e :: es) (d :: ds) := by
  intro O pos s Q E F k
  rw [he]
  refine spliced_cons ?_
  show wpAny _ _ (eval e T.env) _ _ _
  refine h1 O s _ E F fun v s1 F1 K1 R1 => h2 O pos s1 _ E F1 fun vs s2 F2 K2 R2 => ?_
  exact k (v :: vs) s2 F2 (K1.trans K2) ⟨Ke.rd (O := O) K2 R1, R2⟩

theorem plain_any {es : List Expr} {pos : Pos} {env : Env} (h : (starEach es env).any (·.1) = false) : (backTo pos (starEach es env)).any (·.1) = false := by
  rw [← h]; unfold backTo; rw [List.any_map]; rfl

theorem FB.gr {C : Cx} {env : Env} {s s' : Shared} (F : FB C env ρ s) (g : Gr s s') : FB C env ρ s' := by
  refine ⟨⟨fun b o e => g.heap b o (F.old b o e), g.os.trans F.os, g.drawn.trans F.drawn, fun i x e => g.gens i x (F.gens i x e), g.bare, fun a ha => ?_⟩, fun x c hc => ?_, ?_⟩
  · obtain ⟨o, ho⟩ := F.xin a ha; exact ⟨o, g.heap a o ho⟩
  · obtain ⟨v, hv⟩ := F.cl x c hc; exact ⟨v, hv.keeps g.heap⟩
  · obtain ⟨m, hm, hv⟩ := F.fr
    refine ⟨m, hm.keeps g.heap, fun x d hx => ?_⟩
    obtain ⟨v, h1, h2⟩ := hv x d hx
    refine ⟨v, ?_, h2.mono (.of_stays g.heap)⟩
    rcases h1 with h1 | ⟨h1, c, hc, h3, h4⟩
    · exact .inl h1
    · exact .inr ⟨h1, c, hc, h3.keeps g.heap, h4⟩
theorem Ke.gr {L : Addr} {s s' : Shared} (g : Gr s s') : Ke L s s' := ⟨fun b o _ e => g.heap b o e, g.gens, fun _ n => n.keeps g.heap⟩

theorem evalArgs_of {f : Value} {es : List Expr} {pos : Pos} {Q : Args → Shared → Prop} {E : Value → Shared → Prop} {s : Shared} {M : Model} {A : Around} {env : Env} (hp : (starEach es env).any (·.1) = false)
    (h : wpAny M A (spliced (backTo pos (starEach es env))) (fun vs s' => Q ⟨vs, []⟩ s') E s) : wpAny M A (evalArgs f true (backTo pos (starEach es env)) []) Q E s := by
  cases hq : backTo pos (starEach es env) with
  | nil =>
    rw [hq] at h
    unfold evalArgs
    show wpAny M A (spliced [] >>= _) Q E s
    refine wpAny_bind (wpAny_mono h (fun vs s' h' => ?_) fun _ _ x => x)
    exact wpAny_holding (wpAny_bind (wpAny_pure (wpAny_bind (wpAny_pure (wpAny_pure h')))))
  | cons a rest =>
    obtain ⟨b, t⟩ := a
    have := plain_any (pos := pos) hp
    rw [hq] at this h
    simp only [List.any_cons, Bool.or_eq_false_iff] at this
    obtain rfl : b = false := this.1
    exact evalArgs_plain h

/-- a call of a def of the text by its name -/
theorem ev_call {fn : Expr} {es : List Expr} {pos : Pos} {f : Addr} {n : Nat} {ds : List Dt} {r : Dt} (hf : EV T ρ fn (.val (.ref f))) (ha : EVs T ρ es ds) (hc : CT T.prog T.w T.K T.mg T.mb n (.ref f) ds r) (hn : n ≤ T.n) (hk : keepIn T.K (.ref f) = true)
    (he : eval (.Call fn es [] pos) T.env = (do callWith pos (← eval fn T.env) [] (backTo pos (starEach es T.env)) (backToKw pos (keywordEach [] T.env))) := by rfl) (hp : (starEach es T.env).any (·.1) = false := by rfl) : EV T ρ (.Call fn es [] pos) r := by
  intro O s Q E F k
  rw [he]
  refine wpAny_bind (hf O s _ E F fun v s1 F1 K1 R1 => ?_)
  obtain rfl : v = .ref f := R1
  refine callWith_of (P := T.K.In) (by rw [plain_any hp]; rfl) (keeps_K hk) ?_
  refine evalArgs_of hp (ha O pos s1 _ E F1 fun vs s2 F2 K2 R2 => ⟨O.md.kin.keeps F2.old, ?_⟩)
  refine hc T.C.X T.A s2 _ Q E (O.md.keeps F2.old) ⟨O.handled, by have := O.depth; omega, by have := O.units; omega⟩ F2.bare F2.xin R2 fun v s3 g R => ?_
  exact k v s3 (F2.gr g) ((K1.trans K2).trans (.gr g)) R
end
end Mine

end
section
set_option Elab.async false
set_option maxRecDepth 100000
set_option autoImplicit false
set_option linter.unusedVariables false
namespace Mine
open PySem PySem.W PyProof.Rows PySem.Calls

/-! the text's defs, by projection -/
def stmtAt (i : Nat) : Stmt := (PySem.Challenge.pw_pu0031_01.main.body[i]?).getD (.Pass ⟨0, 0, 0, 0⟩)
def fBody : Stmt → List Stmt
  | .FunctionDef _ _ b _ _ _ _ _ _ _ => b
  | _ => []
def fScope : Stmt → Scope
  | .FunctionDef _ _ _ _ _ _ sc _ _ _ => sc
  | _ => { kind := .module, names := [], isGenerator := false, isCoroutine := false, more := [] }
def cBody : Stmt → List Stmt
  | .ClassDef _ _ _ b _ _ _ _ _ _ _ => b
  | _ => []
def methAt (i : Nat) : Stmt := ((cBody (stmtAt 2))[i]?).getD (.Pass ⟨0, 0, 0, 0⟩)

def bStrcoll : List Stmt := fBody (stmtAt 4)

theorem ct_strcoll {prog : Program} {w : World} {K : Frag} {mg mb : Str → Option Value} {fd : FuncData} (H : FnOk K 94 fd [Str.ofString "a", Str.ofString "b"] bStrcoll) (hs : fd.scope = fScope (stmtAt 4)) (x y : Str) :
    CT prog w K mg mb 1 (.ref 94) [.py (.str x), .py (.str y)] (.py (.int (b2i (decide (y.cps.toList < x.cps.toList)) - b2i (decide (x.cps.toList < y.cps.toList))))) := by
  refine ct_def H rfl fun X A L s₀ s E O F => ?_
  refine ex_return (T := Tx.mk prog w K mg mb (cxOf X fd L 94 s₀) A (callEnvC fd L 94) 0) O F (ev_subB (ev_gtS (ev_name rfl) (ev_name rfl)) (ev_ltS (ev_name rfl) (ev_name rfl))) fun v s' F' K' R' => ?_
  exact ⟨v, rfl, F'.toSt, R'⟩
end Mine

end
section
set_option Elab.async false
set_option maxRecDepth 100000
set_option autoImplicit false
set_option linter.unusedVariables false
namespace Mine
open PySem PySem.W PyProof.Rows PySem.Calls PySem.SeqAt

section
variable {T : Tx} {ρ : Rho}

theorem rdAll_of {X : Vol} {h : Heap} : ∀ {vs : List Value} {ds : List PyData}, RdTs X h vs (ds.map .py) → RdAll X h vs ds
  | [], [], _ => .nil
  | v :: vs, d :: ds, r => .cons r.1 (rdAll_of r.2)
  | [], _ :: _, r => r.elim
  | _ :: _, [], r => r.elim

theorem new_off {C : Cx} {env : Env} {s : Shared} (F : FB C env ρ s) : ¬ C.X s.heap.objs.size := fun q => by
  obtain ⟨o, ho⟩ := F.xin _ q
  exact absurd (Heap.lt_size ho) (Nat.lt_irrefl _)
theorem none_off {C : Cx} {env : Env} {s : Shared} (F : FB C env ρ s) {a : Addr} (h : s.heap.get? a = none) : ¬ C.X a := fun q => by
  obtain ⟨o, ho⟩ := F.xin _ q
  rw [h] at ho; cases ho

theorem op_newList {s : Shared} {vs : List Value} {ds : List PyData} (F : FB T.C T.env ρ s) (r : RdAll T.C.X s.heap vs ds) (hz : ds.length ≤ sizeLine) : OP T (newList vs) s (.py (.list ds)) := fun Q E k =>
  wpAny_newObj_type (k _ _ s.toks (.of_stays fun _ _ e => Heap.get?_push_of_some _ e) (Rd.mkList (new_off F) ⟨_, Heap.get?_push_size _ rfl, rfl, 0, rfl⟩ (r.mono (.of_stays fun _ _ e => Heap.get?_push_of_some _ e))))
    (by show vs.toArray.size ≤ sizeLine; rw [List.size_toArray, r.1]; exact hz)
theorem op_newTuple {s : Shared} {vs : List Value} {ds : List PyData} (F : FB T.C T.env ρ s) (r : RdAll T.C.X s.heap vs ds) (hz : ds.length ≤ sizeLine) : OP T (newTuple vs) s (.py (.tuple ds)) := fun Q E k =>
  wpAny_newObj_type (k _ _ s.toks (.of_stays fun _ _ e => Heap.get?_push_of_some _ e) (Rd.mkTuple (new_off F) ⟨_, Heap.get?_push_size _ rfl, rfl, 0, rfl⟩ (r.mono (.of_stays fun _ _ e => Heap.get?_push_of_some _ e))))
    (by show vs.toArray.size ≤ sizeLine; rw [List.size_toArray, r.1]; exact hz)
theorem OP.ev {t : Sem Value} {s s₀ : Shared} {d : Dt} {Q : Value → Shared → Prop} {E : Value → Shared → Prop} (h : OP T t s d) (O : T.Ok) (F : FB T.C T.env ρ s) (K1 : Ke T.env.locals s₀ s)
    (k : ∀ v s', FB T.C T.env ρ s' → Ke T.env.locals s₀ s' → RdT T.C.X s'.heap v d → Q v s') : wpAny (model T.prog T.w) T.A t Q E s :=
  h Q E fun v h' tk kp R => k v _ (F.step O.toEOk kp) (K1.trans (.step kp)) R

theorem ev_list {es : List Expr} {pos : Pos} {ds : List PyData} (h : EVs T ρ es (ds.map .py)) (hz : ds.length ≤ 64 := by simp) : EV T ρ (.List es pos) (.py (.list ds)) := fun O s Q E F k =>
  List_ (h O pos s _ E F fun vs s1 F1 K1 R1 => (op_newList F1 (rdAll_of R1) (Nat.le_trans hz (by decide))).ev O F1 K1 k)
theorem ev_tuple {es : List Expr} {n : Nat} {pos : Pos} {ds : List PyData} (h : EVs T ρ es (ds.map .py)) (hz : ds.length ≤ 64 := by simp) : EV T ρ (.Tuple es n pos) (.py (.tuple ds)) := fun O s Q E F k =>
  Tuple_ (h O pos s _ E F fun vs s1 F1 K1 R1 => (op_newTuple F1 (rdAll_of R1) (Nat.le_trans hz (by decide))).ev O F1 K1 k)

/-! ints -/
theorem ev_mul {l r : Expr} {pos : Pos} {a b : Int} (h1 : EV T ρ l (.py (.int a))) (h2 : EV T ρ r (.py (.int b))) (hm : IntMulOk a b) : EV T ρ (.BinOp l .Mult r pos) (.py (.int (a * b))) :=
  ev_bin h1 h2 fun O s v1 v2 F r1 r2 => by
    obtain ⟨t, rfl⟩ := Rd.int_inv r1; obtain ⟨u, rfl⟩ := Rd.int_inv r2
    exact fun Q E k => PySem.P.mul_int (k _ s.heap _ (.refl _ _) (Rd.int _ _)) hm
theorem pylong_small (a : Int) {b : Int} (h : b.natAbs < 2 ^ 64) : Builtin.divisionGoesByPylong a b = false := by
  unfold Builtin.divisionGoesByPylong
  have e : (if b == 0 then 0 else b.natAbs.log2 / 30 + 1) ≤ 300 := by
    split
    · omega
    · rename_i q
      have hb : b.natAbs ≠ 0 := by simpa using q
      have := (Nat.log2_lt hb).mpr h
      omega
  have e2 : decide ((if b == 0 then 0 else b.natAbs.log2 / 30 + 1) > 300) = false := decide_eq_false (by omega)
  show (decide ((if b == 0 then 0 else b.natAbs.log2 / 30 + 1) > 300) && _) = false
  rw [e2]; rfl
theorem ev_div {l r : Expr} {pos : Pos} {a b : Int} (h1 : EV T ρ l (.py (.int a))) (h2 : EV T ρ r (.py (.int b))) (hb : 0 < b) (hs : b < 2 ^ 64) : EV T ρ (.BinOp l .FloorDiv r pos) (.py (.int (a / b))) :=
  ev_bin h1 h2 fun O s v1 v2 F r1 r2 => by
    obtain ⟨t, rfl⟩ := Rd.int_inv r1; obtain ⟨u, rfl⟩ := Rd.int_inv r2
    have e : Int.fdiv a b = a / b := Int.fdiv_eq_ediv_of_nonneg a (by omega)
    exact fun Q E k => floordiv_int (by omega) (k _ s.heap _ (.refl _ _) (by rw [e]; exact Rd.int _ _)) (.inl (pylong_small a (by omega)))
theorem ev_mod {l r : Expr} {pos : Pos} {a b : Int} (h1 : EV T ρ l (.py (.int a))) (h2 : EV T ρ r (.py (.int b))) (hb : 0 < b) : EV T ρ (.BinOp l .Mod r pos) (.py (.int (a % b))) :=
  ev_bin h1 h2 fun O s v1 v2 F r1 r2 => by
    obtain ⟨t, rfl⟩ := Rd.int_inv r1; obtain ⟨u, rfl⟩ := Rd.int_inv r2
    have e : Int.fmod a b = a % b := Int.fmod_eq_emod_of_nonneg a (by omega)
    exact fun Q E k => mod_int' (by omega) (k _ s.heap _ (.refl _ _) (by rw [e]; exact Rd.int _ _))
theorem ev_pow2 {l r : Expr} {pos : Pos} {n : Int} (h1 : EV T ρ l (.py (.int 2))) (h2 : EV T ρ r (.py (.int n))) (hn : 0 ≤ n) (hs : n ≤ 1000) : EV T ρ (.BinOp l .Pow r pos) (.py (.int (2 ^ n.toNat))) :=
  ev_bin h1 h2 fun O s v1 v2 F r1 r2 => by
    obtain ⟨t, rfl⟩ := Rd.int_inv r1; obtain ⟨u, rfl⟩ := Rd.int_inv r2
    exact fun Q E k => pow_int hn (by have : Builtin.Int.intBits 2 = 2 := by decide
                                      rw [this]; omega) (k _ s.heap _ (.refl _ _) (Rd.int _ _))
theorem ev_neg {x : Expr} {pos : Pos} {a : Int} (h1 : EV T ρ x (.py (.int a))) : EV T ρ (.UnaryOp .USub x pos) (.py (.int (-a))) := by
  intro O s Q E F k
  show wpAny _ _ (do let v ← eval x T.env; standAt pos; holding [v] (unaryOp .USub v)) _ _ _
  refine wpAny_bind (h1 O s _ E F fun v s1 F1 K1 R1 => wpAny_bind (wpAny_standAt (wpAny_holding ?_)))
  obtain ⟨t, rfl⟩ := Rd.int_inv R1
  exact PySem.P.neg_int (k _ _ (F1.tok _) K1.tok (Rd.int _ _))

/-! comparisons of ints, strs, data -/
theorem op_lt {s : Shared} {a b : Int} {v1 v2 : Value} (r1 : RdT T.C.X s.heap v1 (.py (.int a))) (r2 : RdT T.C.X s.heap v2 (.py (.int b))) : OP T (compareOp .Lt v1 v2) s (.py (.bool (decide (a < b)))) := by
  obtain ⟨t, rfl⟩ := Rd.int_inv r1; obtain ⟨u, rfl⟩ := Rd.int_inv r2
  exact fun Q E k => PySem.P.lt_int (k _ s.heap _ (.refl _ _) (Rd.bool _))
theorem op_le {s : Shared} {a b : Int} {v1 v2 : Value} (r1 : RdT T.C.X s.heap v1 (.py (.int a))) (r2 : RdT T.C.X s.heap v2 (.py (.int b))) : OP T (compareOp .LtE v1 v2) s (.py (.bool (decide (a ≤ b)))) := by
  obtain ⟨t, rfl⟩ := Rd.int_inv r1; obtain ⟨u, rfl⟩ := Rd.int_inv r2
  exact fun Q E k => PySem.P.le_int (k _ s.heap _ (.refl _ _) (Rd.bool _))
theorem op_gt {s : Shared} {a b : Int} {v1 v2 : Value} (r1 : RdT T.C.X s.heap v1 (.py (.int a))) (r2 : RdT T.C.X s.heap v2 (.py (.int b))) : OP T (compareOp .Gt v1 v2) s (.py (.bool (decide (a > b)))) := by
  obtain ⟨t, rfl⟩ := Rd.int_inv r1; obtain ⟨u, rfl⟩ := Rd.int_inv r2
  exact fun Q E k => PySem.P.gt_int (k _ s.heap _ (.refl _ _) (Rd.bool _))
theorem op_ge {s : Shared} {a b : Int} {v1 v2 : Value} (r1 : RdT T.C.X s.heap v1 (.py (.int a))) (r2 : RdT T.C.X s.heap v2 (.py (.int b))) : OP T (compareOp .GtE v1 v2) s (.py (.bool (decide (a ≥ b)))) := by
  obtain ⟨t, rfl⟩ := Rd.int_inv r1; obtain ⟨u, rfl⟩ := Rd.int_inv r2
  exact fun Q E k => PySem.P.ge_int (k _ s.heap _ (.refl _ _) (Rd.bool _))
/-- == and != of data, whatever they are -/
theorem op_eq (O : T.Ok) {s : Shared} {a b : PyData} {v1 v2 : Value} (r1 : RdT T.C.X s.heap v1 (.py a)) (r2 : RdT T.C.X s.heap v2 (.py b)) (h1 : shaped a = true) (h2 : shaped b = true) : OP T (compareOp .Eq v1 v2) s (.py (.bool (PyData.eqv a b))) := by
  obtain ⟨as, ra⟩ := Rd.reads r1
  obtain ⟨bs, rb⟩ := Rd.reads r2
  exact fun Q E k => compareEq_shaped ra rb h1 h2 (by have := O.units; omega) (k _ s.heap _ (.refl _ _) (Rd.bool _))
theorem op_ne (O : T.Ok) {s : Shared} {a b : PyData} {v1 v2 : Value} (r1 : RdT T.C.X s.heap v1 (.py a)) (r2 : RdT T.C.X s.heap v2 (.py b)) (h1 : shaped a = true) (h2 : shaped b = true) : OP T (compareOp .NotEq v1 v2) s (.py (.bool (!PyData.eqv a b))) := by
  obtain ⟨as, ra⟩ := Rd.reads r1
  obtain ⟨bs, rb⟩ := Rd.reads r2
  exact fun Q E k => compareNe_shaped ra rb h1 h2 (by have := O.units; omega) (k _ s.heap _ (.refl _ _) (Rd.bool _))

section
variable {l r : Expr} {pos : Pos} {a b : Int}
theorem tv_lt (h1 : EV T ρ l (.py (.int a))) (h2 : EV T ρ r (.py (.int b))) : TV T ρ (.Compare l [.Lt] [r] pos) (decide (a < b)) := tv_cmp h1 h2 (hm := marks_of (by decide) (by decide) r) fun O s v1 v2 F r1 r2 => op_lt r1 r2
theorem tv_le (h1 : EV T ρ l (.py (.int a))) (h2 : EV T ρ r (.py (.int b))) : TV T ρ (.Compare l [.LtE] [r] pos) (decide (a ≤ b)) := tv_cmp h1 h2 (hm := marks_of (by decide) (by decide) r) fun O s v1 v2 F r1 r2 => op_le r1 r2
theorem tv_gt (h1 : EV T ρ l (.py (.int a))) (h2 : EV T ρ r (.py (.int b))) : TV T ρ (.Compare l [.Gt] [r] pos) (decide (a > b)) := tv_cmp h1 h2 (hm := marks_of (by decide) (by decide) r) fun O s v1 v2 F r1 r2 => op_gt r1 r2
theorem tv_ge (h1 : EV T ρ l (.py (.int a))) (h2 : EV T ρ r (.py (.int b))) : TV T ρ (.Compare l [.GtE] [r] pos) (decide (a ≥ b)) := tv_cmp h1 h2 (hm := marks_of (by decide) (by decide) r) fun O s v1 v2 F r1 r2 => op_ge r1 r2
theorem ev_le (h1 : EV T ρ l (.py (.int a))) (h2 : EV T ρ r (.py (.int b))) : EV T ρ (.Compare l [.LtE] [r] pos) (.py (.bool (decide (a ≤ b)))) := ev_cmp h1 h2 (hm := marks_of (by decide) (by decide) r) fun O s v1 v2 F r1 r2 => op_le r1 r2
end
theorem tv_eq {l r : Expr} {pos : Pos} {a b : PyData} (h1 : EV T ρ l (.py a)) (h2 : EV T ρ r (.py b)) (ha : shaped a = true) (hb : shaped b = true) : TV T ρ (.Compare l [.Eq] [r] pos) (PyData.eqv a b) :=
  tv_cmp h1 h2 (hm := marks_of (by decide) (by decide) r) fun O s v1 v2 F r1 r2 => op_eq O r1 r2 ha hb
theorem tv_ne {l r : Expr} {pos : Pos} {a b : PyData} (h1 : EV T ρ l (.py a)) (h2 : EV T ρ r (.py b)) (ha : shaped a = true) (hb : shaped b = true) : TV T ρ (.Compare l [.NotEq] [r] pos) (!PyData.eqv a b) :=
  tv_cmp h1 h2 (hm := marks_of (by decide) (by decide) r) fun O s v1 v2 F r1 r2 => op_ne O r1 r2 ha hb
theorem ev_eq {l r : Expr} {pos : Pos} {a b : PyData} (h1 : EV T ρ l (.py a)) (h2 : EV T ρ r (.py b)) (ha : shaped a = true) (hb : shaped b = true) : EV T ρ (.Compare l [.Eq] [r] pos) (.py (.bool (PyData.eqv a b))) :=
  ev_cmp h1 h2 (hm := marks_of (by decide) (by decide) r) fun O s v1 v2 F r1 r2 => op_eq O r1 r2 ha hb

/-! strs -/
theorem ev_addS {l r : Expr} {pos : Pos} {a b : Str} (h1 : EV T ρ l (.py (.str a))) (h2 : EV T ρ r (.py (.str b))) (hz : a.length + b.length ≤ sizeLine) : EV T ρ (.BinOp l .Add r pos) (.py (.str (a ++ b))) :=
  ev_bin h1 h2 fun O s v1 v2 F r1 r2 => by
    obtain ⟨t, rfl⟩ := Rd.str_inv r1; obtain ⟨u, rfl⟩ := Rd.str_inv r2
    exact fun Q E k => add_str (fun t' tk => k _ s.heap _ (.refl _ _) (Rd.str _ _)) hz
theorem ev_mulS {l r : Expr} {pos : Pos} {a : Str} {n : Int} (h1 : EV T ρ l (.py (.str a))) (h2 : EV T ρ r (.py (.int n))) (hz : MulOk a n) : EV T ρ (.BinOp l .Mult r pos) (.py (.str (Txt.mul a n))) :=
  ev_bin h1 h2 fun O s v1 v2 F r1 r2 => by
    obtain ⟨t, rfl⟩ := Rd.str_inv r1; obtain ⟨u, rfl⟩ := Rd.int_inv r2
    exact fun Q E k => PySem.SB.mul hz (fun t' tk => k _ s.heap _ (.refl _ _) (Rd.str _ _))

/-! lists -/
theorem ev_addL {l r : Expr} {pos : Pos} {a b : List PyData} (h1 : EV T ρ l (.py (.list a))) (h2 : EV T ρ r (.py (.list b))) (hz : a.length + b.length ≤ sizeLine) : EV T ρ (.BinOp l .Add r pos) (.py (.list (a ++ b))) :=
  ev_bin h1 h2 fun O s v1 v2 F r1 r2 => by
    obtain ⟨x, vs, rfl, hx, hl, ra⟩ := Rd.list_inv r1; obtain ⟨y, ws, rfl, hy, hm, rb⟩ := Rd.list_inv r2
    obtain ⟨m, hn, _⟩ := F.fr
    refine fun Q E k => add_arrays (fr_all hn) (news_all _ _) hl hm (fun h' F' N' => ?_) (by simp only [List.size_toArray]; rw [ra.1, rb.1]; exact hz)
    have kp := kp_tl hn F' N'
    have hN := N' _ List.mem_cons_self
    refine k _ h' _ kp (Rd.mkList (vs := vs ++ ws) (new_off F) ⟨_, hN.1, rfl, 0, by simp⟩ ?_)
    exact (ra.append rb).mono (.of fun b o n e => kp.keep b o (fun q => n (q ▸ O.wx _ O.wl)) e)
theorem rdAll_rep {X : Vol} {h : Heap} {vs : List Value} {ds : List PyData} (r : RdAll X h vs ds) : ∀ n : Nat, RdAll X h (List.replicate n vs).flatten (List.replicate n ds).flatten
  | 0 => .nil
  | n + 1 => by simp only [List.replicate_succ, List.flatten_cons]; exact r.append (rdAll_rep r n)
theorem ev_mulL {l r : Expr} {pos : Pos} {a : List PyData} {n : Int} (h1 : EV T ρ l (.py (.list a))) (h2 : EV T ρ r (.py (.int n))) (hn : n.natAbs ≤ 256) (hz : a.length * n.toNat ≤ 256) : EV T ρ (.BinOp l .Mult r pos) (.py (.list (List.replicate n.toNat a).flatten)) :=
  ev_bin h1 h2 fun O s v1 v2 F r1 r2 => by
    obtain ⟨x, vs, rfl, hx, hl, ra⟩ := Rd.list_inv r1; obtain ⟨u, rfl⟩ := Rd.int_inv r2
    obtain ⟨m, hns, _⟩ := F.fr
    refine fun Q E k => PySem.W.KMa.mul (fr_all hns) (news_all _ _) hl (by omega) (by omega) (by rw [ra.1]; exact hz) rfl (fun D h' F' N' hlt => ?_)
    have kp := kp_tl hns F' N'
    have hN := N' _ List.mem_cons_self
    have hD : ¬ T.C.X D := none_off F (by
      cases q : s.heap.get? D with
      | none => rfl
      | some o =>
        by_cases z : D = T.env.locals
        · exact absurd z hN.2.1
        · exact absurd (hlt _ (mem_allBut.mpr ⟨z, q⟩)) (Nat.lt_irrefl _))
    refine k _ h' _ kp (Rd.mkList (vs := (List.replicate n.toNat vs).flatten) hD ⟨_, hN.1, rfl, 0, rfl⟩ ?_)
    exact (rdAll_rep ra _).mono (.of fun b o n e => kp.keep b o (fun q => n (q ▸ O.wx _ O.wl)) e)
end
end Mine

end
section
set_option Elab.async false
set_option maxRecDepth 100000
set_option autoImplicit false
set_option linter.unusedVariables false
namespace Mine
open PySem PySem.W PyProof.Rows PySem.Calls PySem.SeqAt

/-- all but the object I stands; the rest of the state goes on -/
structure Gb (I : Addr) (s s' : Shared) : Prop where
  heap : ∀ b o, b ≠ I → s.heap.get? b = some o → s'.heap.get? b = some o
  os : s'.os = s.os
  drawn : s'.drawn = s.drawn
  gens : ∀ (i : Nat) x, s.gens[i]? = some x → s'.gens[i]? = some x
  bare : AllBare s.gens → AllBare s'.gens
theorem Gb.of_heap {I : Addr} {s : Shared} {h' : Heap} {tk : Nat} (k : ∀ b o, b ∉ [I] → s.heap.get? b = some o → h'.get? b = some o) : Gb I s { s with heap := h', toks := tk } :=
  ⟨fun b o n e => k b o (by simpa using n) e, rfl, rfl, fun _ _ e => e, id⟩

section
variable {T : Tx} {ρ : Rho}

theorem FB.but {C : Cx} {env : Env} {s s' : Shared} {K : Frag} {mg mb : Str → Option Value} {I : Addr} (e : EOk K mg mb C env) (F : FB C env ρ s) (hX : ¬ C.X I) (h0 : C.s₀.heap.get? I = none) (hir : ∀ o, s.heap.get? I = some o → ¬ Rel o) (g : Gb I s s') : FB C env ρ s' := by
  have hL : env.locals ≠ I := fun q => hX (q ▸ e.wx _ e.wl)
  refine ⟨⟨fun b o q => g.heap b o (fun z => ?_) (F.old b o q), g.os.trans F.os, g.drawn.trans F.drawn, fun i x q => g.gens i x (F.gens i x q), g.bare F.bare, fun a ha => ?_⟩, fun x c hc => ?_, ?_⟩
  · subst z; rw [h0] at q; cases q
  · obtain ⟨o, ho⟩ := F.xin a ha; exact ⟨o, g.heap a o (fun z => hX (z ▸ ha)) ho⟩
  · obtain ⟨v, o, ho, hd⟩ := F.cl x c hc
    exact ⟨v, o, g.heap c o (fun z => hX (z ▸ e.cx x c hc)) ho, hd⟩
  · obtain ⟨m, ⟨oL, es, ep, hoL, hr⟩, hv⟩ := F.fr
    refine ⟨m, ⟨oL, es, ep, g.heap _ _ hL hoL, hr⟩, fun x d hx => ?_⟩
    obtain ⟨v, h1, h2⟩ := hv x d hx
    refine ⟨v, ?_, h2.mono fun b o n r q => g.heap b o (fun z => by subst z; exact hir o q r) q⟩
    rcases h1 with h1 | ⟨h1, c, hc, ⟨o, ho, hd⟩, hxc, hne⟩
    · exact .inl h1
    · exact .inr ⟨h1, c, hc, ⟨o, g.heap c o (fun z => hX (z ▸ hxc)) ho, hd⟩, hxc, hne⟩

structure Walk (T : Tx) (ds : List PyData) (I : Addr) (s : Shared) (fp : List Addr) (P : Nat → Value → Prop) (St : Nat → Heap → Prop) : Prop where
  walks : Walks T.prog T.w T.A I fp [I] ds.length P St
  start : St 0 s.heap
  off : ∀ b ∈ fp, ¬ T.C.X b
  irr : ∀ i h o, St i h → h.get? I = some o → ¬ Rel o
  rd : ∀ (i : Nat) v d, P i v → ds[i]? = some d → Rd T.C.X s.heap v d
  inI : I ∈ fp
  fpin : ∀ b ∈ fp, ∃ o, s.heap.get? b = some o

/-- an expression that is iterated: the data that come -/
def IT (T : Tx) (ρ : Rho) (e : Expr) (ds : List PyData) : Prop := T.Ok → ∀ s (Q : Value → Shared → Prop) E, FB T.C T.env ρ s →
  (∀ I s' fp P St, FB T.C T.env ρ s' → Ke T.env.locals s s' → Walk T ds I s' fp P St → s.heap.get? I = none → Q (.ref I) s') →
  wpAny (model T.prog T.w) T.A (eval e T.env) (fun x s1 => wpAny (model T.prog T.w) T.A (pyIter x) Q E s1) E s

theorem not_rel {o : Obj} {n : String} (h : o.cls = .type n) (h1 : n ≠ "list") (h2 : n ≠ "tuple") (h3 : n ≠ "dict") : ¬ Rel o := by
  rintro (q | q | q | ⟨a, q⟩) <;> rw [h] at q
  · exact h1 (by injection q)
  · exact h2 (by injection q)
  · exact h3 (by injection q)
  · cases q

theorem Ke.none {L : Addr} {s s' : Shared} (k : Ke L s s') {m : Str → Option Value} (hL : s'.heap.Ns L m) {a : Addr} (h : s'.heap.get? a = none) : s.heap.get? a = none := by
  cases q : s.heap.get? a with
  | none => rfl
  | some o =>
    by_cases z : a = L
    · subst z; obtain ⟨o', _, _, ho, _⟩ := hL; rw [h] at ho; cases ho
    · have := k.heap a o z q; rw [h] at this; cases this
theorem size_none (h : Heap) : h.get? h.objs.size = none := by
  cases q : h.get? h.objs.size with
  | none => rfl
  | some o => exact absurd (Heap.lt_size q) (Nat.lt_irrefl _)

theorem it_list {e : Expr} {ds : List PyData} (h : EV T ρ e (.py (.list ds))) : IT T ρ e ds := by
  intro O s Q E F k
  refine h O s _ E F fun v s1 F1 K1 R1 => ?_
  obtain ⟨a, vs, rfl, hx, hl, ra⟩ := Rd.list_inv R1
  have hne : a ≠ s1.heap.objs.size := fun z => by subst z; obtain ⟨o, ho, _⟩ := hl; rw [size_none] at ho; cases ho
  refine wpAny_pyIter_list hl ?_
  have st : s1.heap.StaysIn (s1.heap.push { cls := .type "list_iterator", data := .fields #[.ref a, .int 0 0] }) := fun b o e => Heap.get?_push_of_some _ e
  have W := Walks.list (prog := T.prog) (w := T.w) (A := T.A) O.handled s1.heap.objs.size a hne vs.toArray
  rw [show vs.toArray.size = ds.length by rw [List.size_toArray, ra.1]] at W
  obtain ⟨m, hm, _⟩ := F1.fr
  refine k _ _ _ _ _ (F1.step O.toEOk (.of_stays st) (tk := s1.toks)) (K1.trans (.step (.of_stays st))) ⟨W, ?_, ?_, ?_, ?_, by simp, ?_⟩ (K1.none hm (size_none _))
  · exact ⟨⟨_, Heap.get?_push_size _ rfl, rfl, rfl⟩, hl.push _⟩
  · intro b hb
    rcases List.mem_cons.mp hb with rfl | hb
    · exact new_off F1
    · rw [List.mem_singleton.mp hb]; exact hx
  · rintro i h o ⟨⟨o', ho', hc, _⟩, _⟩ ho
    rw [ho'] at ho; cases ho
    exact not_rel hc (by decide) (by decide) (by decide)
  · intro i v d hp hd
    exact (ra.2 i v d (by simpa using hp) hd).mono (.of_stays st)
  · intro b hb
    rcases List.mem_cons.mp hb with rfl | hb
    · exact ⟨_, Heap.get?_push_size _ rfl⟩
    · rw [List.mem_singleton.mp hb]; obtain ⟨o, ho, _⟩ := hl; exact ⟨o, Heap.get?_push_of_some _ ho⟩

def charsOf (x : Str) : List PyData := x.cps.toList.map fun c => .str ⟨#[c]⟩
theorem it_str {e : Expr} {x : Str} (h : EV T ρ e (.py (.str x))) : IT T ρ e (charsOf x) := by
  intro O s Q E F k
  refine h O s _ E F fun v s1 F1 K1 R1 => ?_
  obtain ⟨t, rfl⟩ := Rd.str_inv R1
  have st : ∀ ob : Obj, s1.heap.StaysIn (s1.heap.push ob) := fun ob b o e => Heap.get?_push_of_some _ e
  have hlen : (charsOf x).length = x.cps.size := by simp [charsOf]
  obtain ⟨m, hm, _⟩ := F1.fr
  have rdw : ∀ (h : Heap) (i : Nat) v d, SignAt x i v → (charsOf x)[i]? = some d → Rd T.C.X h v d := by
    rintro h i v d ⟨c, u, hc, rfl⟩ hd
    have hc' : x.cps.toList[i]? = some c := by simpa using hc
    simp only [charsOf, List.getElem?_map, hc', Option.map_some] at hd
    cases hd
    exact .str _ _
  have off : ∀ b ∈ [s1.heap.objs.size], ¬ T.C.X b := fun b hb => by rw [List.mem_singleton.mp hb]; exact new_off F1
  cases ha : x.cps.all (· < 128)
  · refine wpAny_pyIter_wide ha (k _ _ [s1.heap.objs.size] (SignAt x) (fun i h => h.IsStrIter s1.heap.objs.size "str_iterator" x t i) (F1.step O.toEOk (.of_stays (st _)) (tk := s1.toks)) (K1.trans (.step (.of_stays (st _)))) ⟨hlen ▸ Walks.strWide O.handled _ x t, ⟨_, Heap.get?_push_size _ rfl, rfl, rfl⟩, off, ?_, rdw _, by simp, fun b hb => by rw [List.mem_singleton.mp hb]; exact ⟨_, Heap.get?_push_size _ rfl⟩⟩ (K1.none hm (size_none _)))
    rintro i h o ⟨o', ho', hc, _⟩ ho
    rw [ho'] at ho; cases ho
    exact not_rel hc (by decide) (by decide) (by decide)
  · refine wpAny_pyIter_ascii ha (k _ _ [s1.heap.objs.size] (SignAt x) (fun i h => h.IsStrIter s1.heap.objs.size "str_ascii_iterator" x t i) (F1.step O.toEOk (.of_stays (st _)) (tk := s1.toks)) (K1.trans (.step (.of_stays (st _)))) ⟨hlen ▸ Walks.strAscii O.handled _ x t, ⟨_, Heap.get?_push_size _ rfl, rfl, rfl⟩, off, ?_, rdw _, by simp, fun b hb => by rw [List.mem_singleton.mp hb]; exact ⟨_, Heap.get?_push_size _ rfl⟩⟩ (K1.none hm (size_none _)))
    rintro i h o ⟨o', ho', hc, _⟩ ho
    rw [ho'] at ho; cases ho
    exact not_rel hc (by decide) (by decide) (by decide)

/-- a call of a built-in (a function or a type) -/
theorem looks_machine {M : Model} {h : Heap} {f : Value} (hf : ∀ a, f ≠ .ref a) : Looks M h (keeperOf f) .machine := Looks.of_pure (by cases f <;> first | rfl | exact absurd rfl (hf _))
theorem callWith_plain {M : Model} {A : Around} {E : Value → Shared → Prop} {s : Shared} {pos : Pos} {f : Value} {first : List Value} {Q : Value → Shared → Prop} {args : List (Bool × Sem Value)} (hp : args.any (·.1) = false) (hf : ∀ a, f ≠ .ref a)
    (h : wpAny M A (evalArgs f true args []) (fun a s₁ => wpAny M A (call f (first ++ a.pos) a.kw) Q E s₁) E s) : wpAny M A (callWith pos f first args []) Q E s :=
  callWith_of (P := fun _ => True) (by rw [hp]; rfl) (fun h _ => ⟨.machine, .inr (.inl rfl), looks_machine hf⟩) (wpAny_mono h (fun a s₁ q => ⟨trivial, q⟩) fun _ _ e => e)

theorem ev_bcall {fn : Expr} {es : List Expr} {pos : Pos} {f : Value} {ds : List Dt} {r : Dt} (hf : EV T ρ fn (.val f)) (hr : ∀ a, f ≠ .ref a) (ha : EVs T ρ es ds)
    (hc : T.Ok → ∀ s vs, FB T.C T.env ρ s → RdTs T.C.X s.heap vs ds → OP T (call f vs) s r)
    (he : eval (.Call fn es [] pos) T.env = (do callWith pos (← eval fn T.env) [] (backTo pos (starEach es T.env)) (backToKw pos (keywordEach [] T.env))) := by rfl) (hp : (starEach es T.env).any (·.1) = false := by rfl) : EV T ρ (.Call fn es [] pos) r := by
  intro O s Q E F k
  rw [he]
  refine wpAny_bind (hf O s _ E F fun v s1 F1 K1 R1 => ?_)
  obtain rfl : v = f := R1
  refine callWith_plain (plain_any hp) hr ?_
  refine evalArgs_of hp (ha O pos s1 _ E F1 fun vs s2 F2 K2 R2 => ?_)
  exact (hc O s2 vs F2 R2).ev O F2 (K1.trans K2) k

theorem RdTs.one {X : Vol} {h : Heap} {vs : List Value} {d : Dt} (r : RdTs X h vs [d]) : ∃ v, vs = [v] ∧ RdT X h v d := by
  match vs, r with
  | [v], r => exact ⟨v, rfl, r.1⟩
theorem RdTs.two {X : Vol} {h : Heap} {vs : List Value} {d e : Dt} (r : RdTs X h vs [d, e]) : ∃ v u, vs = [v, u] ∧ RdT X h v d ∧ RdT X h u e := by
  match vs, r with
  | [v, u], r => exact ⟨v, u, rfl, r.1, r.2.1⟩

theorem op_lenL {s : Shared} {vs : List Value} {a : List PyData} (r : RdTs T.C.X s.heap vs [.py (.list a)]) (hz : a.length < 2 ^ 62) : OP T (call (.builtin "len") vs) s (.py (.int a.length)) := by
  obtain ⟨v, rfl, r0⟩ := r.one
  obtain ⟨x, us, rfl, hx, hl, ra⟩ := Rd.list_inv r0
  have e : us.toArray.size = a.length := by rw [List.size_toArray, ra.1]
  exact fun Q E k => call_len_list hl (by rw [e]; omega) (k _ s.heap _ (.refl _ _) (by rw [e]; exact Rd.int _ _))
theorem op_lenT {s : Shared} {vs : List Value} {a : List PyData} (r : RdTs T.C.X s.heap vs [.py (.tuple a)]) (hz : a.length < 2 ^ 62) : OP T (call (.builtin "len") vs) s (.py (.int a.length)) := by
  obtain ⟨v, rfl, r0⟩ := r.one
  obtain ⟨x, us, rfl, hx, hl, ra⟩ := Rd.tuple_inv r0
  have e : us.toArray.size = a.length := by rw [List.size_toArray, ra.1]
  exact fun Q E k => len_tuple hl (by rw [e]; omega) (k _ s.heap _ (.refl _ _) (by rw [e]; exact Rd.int _ _))
theorem op_lenS {s : Shared} {vs : List Value} {a : Str} (r : RdTs T.C.X s.heap vs [.py (.str a)]) (hz : a.length < 2 ^ 62) : OP T (call (.builtin "len") vs) s (.py (.int a.length)) := by
  obtain ⟨v, rfl, r0⟩ := r.one
  obtain ⟨t, rfl⟩ := Rd.str_inv r0
  exact fun Q E k => PySem.P.len_str (by omega) (k _ s.heap _ (.refl _ _) (Rd.int _ _))
theorem op_max2 (O : T.Ok) {s : Shared} {vs : List Value} {a b : Int} (F : FB T.C T.env ρ s) (r : RdTs T.C.X s.heap vs [.py (.int a), .py (.int b)]) : OP T (call (.builtin "max") vs) s (.py (.int (max a b))) := by
  obtain ⟨v, u, rfl, r1, r2⟩ := r.two
  obtain ⟨t, rfl⟩ := Rd.int_inv r1; obtain ⟨t', rfl⟩ := Rd.int_inv r2
  obtain ⟨m, hm, _⟩ := F.fr
  have e : (if b > a then b else a) = max a b := by split <;> omega
  exact fun Q E k => max_two_N O.handled (fr_all hm) (news_all _ _) fun h' tk F' N' => k _ h' tk (kp_eq hm F' N') (by rw [e]; exact Rd.int _ _)
theorem op_min2 (O : T.Ok) {s : Shared} {vs : List Value} {a b : Int} (F : FB T.C T.env ρ s) (r : RdTs T.C.X s.heap vs [.py (.int a), .py (.int b)]) : OP T (call (.builtin "min") vs) s (.py (.int (min a b))) := by
  obtain ⟨v, u, rfl, r1, r2⟩ := r.two
  obtain ⟨t, rfl⟩ := Rd.int_inv r1; obtain ⟨t', rfl⟩ := Rd.int_inv r2
  obtain ⟨m, hm, _⟩ := F.fr
  have e : (if b < a then b else a) = min a b := by split <;> omega
  exact fun Q E k => min_two_N O.handled (fr_all hm) (news_all _ _) fun h' tk F' N' => k _ h' tk (kp_eq hm F' N') (by rw [e]; exact Rd.int _ _)
/-- the greatest of ints that are not none -/
theorem op_maxL (O : T.Ok) {s : Shared} {vs : List Value} {ns : List Int} {M : Int} (F : FB T.C T.env ρ s) (r : RdTs T.C.X s.heap vs [.py (.list (ns.map .int))]) (hM : M ∈ ns) (hle : ∀ a ∈ ns, a ≤ M) : OP T (call (.builtin "max") vs) s (.py (.int M)) := by
  obtain ⟨v, rfl, r0⟩ := r.one
  obtain ⟨x, us, rfl, hx, hl, ra⟩ := Rd.list_inv r0
  obtain ⟨m, hm, _⟩ := F.fr
  refine fun Q E k => kso_max (fr_all hm) (news_all _ _) hl (Rd.intsAre ra) (List.length_pos_of_mem hM) O.handled fun h' M' t tk F' N' h1 h2 => k _ h' tk (kp_eq hm F' N') ?_
  have : M' = M := Int.le_antisymm (hle _ h1) (h2 _ hM)
  subst this; exact Rd.int _ _
end
end Mine

end
section
set_option Elab.async false
set_option maxRecDepth 100000
set_option autoImplicit false
set_option linter.unusedVariables false
namespace Mine
open PySem PySem.W PyProof.Rows PySem.Calls PySem.SeqAt

section
variable {T : Tx} {ρ : Rho}

/-- what is said of volatile objects that are not the frame's own store -/
def Stable (T : Tx) (G : Heap → Prop) : Prop := ∀ h h' : Heap, G h → (∀ b o, T.C.X b → ¬ SW T b → h.get? b = some o → h'.get? b = some o) → Kx T.C.X h h' → G h'
theorem Stable.triv : Stable T (fun _ => True) := fun _ _ _ _ _ => trivial

/-- the iterated expression at one state -/
def ITat (T : Tx) (ρ : Rho) (e : Expr) (ds : List PyData) (s : Shared) : Prop := ∀ (Q : Value → Shared → Prop) E,
  (∀ I s' fp P St, FB T.C T.env ρ s' → Ke T.env.locals s s' → Walk T ds I s' fp P St → s.heap.get? I = none → Q (.ref I) s') →
  wpAny (model T.prog T.w) T.A (eval e T.env) (fun x s1 => wpAny (model T.prog T.w) T.A (pyIter x) Q E s1) E s
theorem IT.at {e : Expr} {ds : List PyData} {s : Shared} (h : IT T ρ e ds) (O : T.Ok) (F : FB T.C T.env ρ s) : ITat T ρ e ds s := fun Q E k => h O s Q E F k

/-! for -/
theorem ex_for {x : Str} {px pos : Pos} {iter : Expr} {body rest : List Stmt} {ds : List PyData} {Q : Flow → Shared → Prop} {E : Value → Shared → Prop} {s : Shared} (ρs : Nat → Rho) (G : Nat → Heap → Prop)
    (O : T.Ok) (F : FB T.C T.env (ρs 0) s) (hG : G 0 s.heap) (hGs : ∀ i, Stable T (G i)) (hI : ITat T (ρs 0) iter ds s) (hx : STO T x)
    (turn : ∀ (i : Nat) d, ds[i]? = some d → ∀ s' E', FB T.C T.env ((x, .py d) :: ρs i) s' → G i s'.heap → Kw T.C.W s s' →
      wpAny (model T.prog T.w) T.A (execs body T.env) (fun fl s'' => match fl with
        | .next | .cont => FB T.C T.env (ρs (i + 1)) s'' ∧ G (i + 1) s''.heap ∧ Kw T.C.W s' s''
        | .brk => wpAny (model T.prog T.w) T.A (execs rest T.env) Q E s''
        | .ret v => Q (.ret v) s'') E' s')
    (done : ∀ s', FB T.C T.env (ρs ds.length) s' → G ds.length s'.heap → Kw T.C.W s s' → wpAny (model T.prog T.w) T.A (execs rest T.env) Q E s')
    (hs : ∀ v, foldedSetIterable iter T.env v = pure v := by intro _; rfl) (ht : ∀ it v, letOwnedTupleGo (.Name x px) it v = pure () := by intro _ _; rfl) :
    wpAny (model T.prog T.w) T.A (execs (.For (.Name x px) iter body [] pos :: rest) T.env) Q E s := by
  refine wpAny_execs_cons (wpAny_For (hI _ E fun I s1 fp P St F1 K1 W hnew => ?_) hs)
  have hIX : ¬ T.C.X I := W.off I W.inI
  have hI0 : T.C.s₀.heap.get? I = none := by
    cases q : T.C.s₀.heap.get? I with
    | none => rfl
    | some o => have := F.old I o q; rw [hnew] at this; cases this
  have hG1 : G 0 s1.heap := hGs 0 _ _ hG (fun b o _ n e => K1.heap b o (fun z => n (z ▸ ⟨O.wl, .inl rfl⟩)) e) (K1.kx (O.wx _ O.wl))
  have next : ∀ {i : Nat} {s2 : Shared} {h' : Heap} {tk : Nat}, FB T.C T.env (ρs i) s2 → G i s2.heap → St i s2.heap → (∀ b o, b ∉ [I] → s2.heap.get? b = some o → h'.get? b = some o) →
      FB T.C T.env (ρs i) { s2 with heap := h', toks := tk } ∧ G i h' := fun {i s2 h' tk} F2 G2 S2 hk =>
    ⟨F2.but O.toEOk hIX hI0 (fun o ho => W.irr i _ o S2 ho) (Gb.of_heap hk), hGs i _ _ G2 (fun b o hb _ e => hk b o (by simp; exact fun z => hIX (z ▸ hb)) e) (fun b o n r e => hk b o (by simp; exact fun z => by subst z; exact W.irr i _ o S2 e r) e)⟩
  have kin : ∀ {s2 : Shared} {h' : Heap} {tk : Nat}, Kw T.C.W s s2 → (∀ b o, b ∉ [I] → s2.heap.get? b = some o → h'.get? b = some o) → Kw T.C.W s { s2 with heap := h', toks := tk } := fun {s2 h' tk} k hk =>
    ⟨fun b o n e => hk b o (by simp; exact fun z => by subst z; rw [hnew] at e; cases e) (k.heap b o n e), k.gens⟩
  refine codeAny_forLoop (fun n s2 => ∃ i, n = ds.length + 1 - i ∧ i ≤ ds.length ∧ FB T.C T.env (ρs i) s2 ∧ G i s2.heap ∧ St i s2.heap ∧ Kw T.C.W s s2 ∧ Kx T.C.X s1.heap s2.heap) ?_ (ds.length + 1) ⟨0, rfl, Nat.zero_le _, F1, hG1, W.start, K1.kw O.wl, Kx.refl _ _⟩ (ht _)
  rintro n s2 ⟨i, rfl, hi, F2, G2, S2, K2, X2⟩
  by_cases hlt : i < ds.length
  · refine W.walks.item i s2 _ _ hlt S2 fun v h' tk hP hS hk => ?_
    obtain ⟨F3, G3⟩ := next (tk := tk) F2 G2 S2 hk
    have K3 := kin (tk := tk) K2 hk
    have hd : ds[i]? = some ds[i] := by simp [hlt]
    have r1 : Rd T.C.X s1.heap v ds[i] := W.rd i v _ hP hd
    have X3 : Kx T.C.X s1.heap h' := fun b o n r e => hk b o (by simp; exact fun z => by subst z; exact W.irr 0 _ o W.start e r) (X2 b o n r e)
    have r3 : Rd T.C.X h' v ds[i] := r1.mono X3
    refine wpAny_assign_Name (st_name O F3 (d := .py ds[i]) r3 (fun s4 F4 K4 => ?_) hx)
    have G4 : G i s4.heap := hGs i _ _ G3 (fun b o _ n e => K4.heap b o n e) (.of fun b o n e => K4.heap b o (fun q => n (O.wx _ q.1)) e)
    refine wpAny_mono (turn i _ hd s4 _ F4 G4 (K3.trans K4.sw)) (fun fl s5 h5 => ?_) fun _ _ e => e
    have fin : FB T.C T.env (ρs (i + 1)) s5 ∧ G (i + 1) s5.heap ∧ Kw T.C.W s4 s5 → ∃ m, m < ds.length + 1 - i ∧ ∃ j, m = ds.length + 1 - j ∧ j ≤ ds.length ∧ FB T.C T.env (ρs j) s5 ∧ G j s5.heap ∧ St j s5.heap ∧ Kw T.C.W s s5 ∧ Kx T.C.X s1.heap s5.heap := by
      rintro ⟨F5, G5, K5⟩
      refine ⟨ds.length + 1 - (i + 1), by omega, i + 1, rfl, hlt, F5, G5, ?_, (K3.trans K4.sw).trans K5, fun b o n r e => K5.heap b o (fun q => n (O.wx _ q)) (K4.heap b o (fun q => n (O.wx _ q.1)) (X3 b o n r e))⟩
      exact W.walks.frame _ _ _ hS fun b hb o e => K5.heap b o (fun q => W.off b hb (O.wx _ q)) (K4.heap b o (fun q => W.off b hb (O.wx _ q.1)) e)
    cases fl with
    | next => exact fin h5
    | cont => exact fin h5
    | brk => exact h5
    | ret v => exact h5
  · have hi' : i = ds.length := by omega
    subst hi'
    refine W.walks.done s2 _ _ S2 fun h' tk hk => wpAny_execs_nil ?_
    obtain ⟨F3, G3⟩ := next (tk := tk) F2 G2 S2 hk
    exact done _ F3 G3 (kin K2 hk)
end
end Mine

end
section
set_option Elab.async false
set_option maxRecDepth 100000
set_option autoImplicit false
set_option linter.unusedVariables false
namespace Mine
open PySem PySem.W PyProof.Rows PySem.Calls PySem.SeqAt

section
variable {T : Tx} {ρ : Rho}

/-! while -/
theorem ex_while {test : Expr} {body rest : List Stmt} {pos : Pos} {Q : Flow → Shared → Prop} {E : Value → Shared → Prop} {s : Shared} (ρs : Nat → Rho) (N : Nat)
    (O : T.Ok) (F : FB T.C T.env (ρs 0) s) (tst : ∀ i, i ≤ N → TV T (ρs i) test (decide (i < N)))
    (turn : ∀ i, i < N → ∀ s' E', FB T.C T.env (ρs i) s' → Kw T.C.W s s' → wpAny (model T.prog T.w) T.A (execs body T.env) (fun fl s'' => fl = .next ∧ FB T.C T.env (ρs (i + 1)) s'' ∧ Kw T.C.W s' s'') E' s')
    (done : ∀ s', FB T.C T.env (ρs N) s' → Kw T.C.W s s' → wpAny (model T.prog T.w) T.A (execs rest T.env) Q E s') :
    wpAny (model T.prog T.w) T.A (execs (.While test body [] pos :: rest) T.env) Q E s := by
  refine wpAny_execs_cons (wpAny_While (codeAny_whileLoop (fun n s2 => ∃ i, n = N - i ∧ i ≤ N ∧ FB T.C T.env (ρs i) s2 ∧ Kw T.C.W s s2) ?_ N ⟨0, rfl, Nat.zero_le _, F, .refl _ _⟩))
  rintro n s2 ⟨i, rfl, hi, F2, K2⟩
  refine tst i hi O s2 _ _ F2 fun s3 F3 K3 => ?_
  have K3' : Kw T.C.W s s3 := K2.trans (K3.kw O.wl)
  by_cases hlt : i < N
  · simp only [hlt, decide_true, if_true]
    refine wpAny_mono (turn i hlt s3 _ F3 K3') (fun fl s4 h4 => ?_) fun _ _ e => e
    obtain ⟨rfl, F4, K4⟩ := h4
    exact ⟨N - (i + 1), by omega, i + 1, rfl, hlt, F4, K3'.trans K4⟩
  · simp only [hlt, decide_false, Bool.false_eq_true, if_false]
    have : i = N := by omega
    subst this
    exact wpAny_execs_nil (done s3 F3 K3')

/-! and, or, if-else -/
theorem isTrue_and2 {env : Env} {a b : Expr} {pos : Pos} {whole : Sem Value} : isTrue (.BoolOp .And [a, b] pos) env whole = (do match ← isTrue a env (eval a env) with | false => pure false | true => (do match ← isTrue b env (eval b env) with | false => pure false | true => pure true)) := by
  show allTrue .And [a, b] env = _
  simp only [allTrue]
  congr 1; funext x; cases x
  · rfl
  · simp only []
    congr 1; funext y; cases y <;> rfl
theorem tv_and {a b : Expr} {pos : Pos} {x y : Bool} (h1 : TV T ρ a x) (h2 : x = true → TV T ρ b y) : TV T ρ (.BoolOp .And [a, b] pos) (x && y) := by
  intro O s Q E F k
  rw [isTrue_and2]
  refine wpAny_bind (h1 O s _ E F fun s1 F1 K1 => ?_)
  cases x with
  | false => exact wpAny_pure (k s1 F1 K1)
  | true =>
    refine wpAny_bind (h2 rfl O s1 _ E F1 fun s2 F2 K2 => ?_)
    cases y with
    | false => exact wpAny_pure (k s2 F2 (K1.trans K2))
    | true => exact wpAny_pure (k s2 F2 (K1.trans K2))
theorem isTrue_or2 {env : Env} {a b : Expr} {pos : Pos} {whole : Sem Value} : isTrue (.BoolOp .Or [a, b] pos) env whole = (do match ← isTrue a env (eval a env) with | true => pure true | false => (do match ← isTrue b env (eval b env) with | true => pure true | false => pure false)) := by
  show allTrue .Or [a, b] env = _
  simp only [allTrue]
  congr 1; funext x; cases x
  · simp only []
    congr 1; funext y; cases y <;> rfl
  · rfl
theorem tv_or {a b : Expr} {pos : Pos} {x y : Bool} (h1 : TV T ρ a x) (h2 : x = false → TV T ρ b y) : TV T ρ (.BoolOp .Or [a, b] pos) (x || y) := by
  intro O s Q E F k
  rw [isTrue_or2]
  refine wpAny_bind (h1 O s _ E F fun s1 F1 K1 => ?_)
  cases x with
  | true => exact wpAny_pure (k s1 F1 K1)
  | false =>
    refine wpAny_bind (h2 rfl O s1 _ E F1 fun s2 F2 K2 => ?_)
    cases y with
    | false => exact wpAny_pure (k s2 F2 (K1.trans K2))
    | true => exact wpAny_pure (k s2 F2 (K1.trans K2))
theorem ev_if {t a b : Expr} {pos : Pos} {x : Bool} {d : Dt} (h : TV T ρ t x) (h1 : x = true → EV T ρ a d) (h2 : x = false → EV T ρ b d) : EV T ρ (.IfExp t a b pos) d := by
  intro O s Q E F k
  show wpAny _ _ (do if ← isTrue t T.env (eval t T.env) then eval a T.env else eval b T.env) _ _ _
  refine wpAny_bind (h O s _ E F fun s1 F1 K1 => ?_)
  cases x with
  | true => simp only [if_true]; exact h1 rfl O s1 _ E F1 fun v s2 F2 K2 R2 => k v s2 F2 (K1.trans K2) R2
  | false => simp only [Bool.false_eq_true, if_false]; exact h2 rfl O s1 _ E F1 fun v s2 F2 K2 R2 => k v s2 F2 (K1.trans K2) R2
/-- `a and b` as a value, of bools -/
theorem boolOp_and {pos : Pos} {x : Sem Value} {rest : List (Sem Value)} (hr : rest ≠ []) : boolOp pos .And (x :: rest) = (do let v ← x; standAt pos; let t ← holding [v] (truthy v); match t with | false => pure v | true => boolOp pos .And rest) := by
  cases rest with
  | nil => exact absurd rfl hr
  | cons y r => simp only [boolOp]; congr 1; funext v; congr 1; funext _; congr 1; funext t; cases t <;> rfl
theorem ev_and2 {a b : Expr} {pos : Pos} {x y : Bool} (h1 : EV T ρ a (.py (.bool x))) (h2 : x = true → EV T ρ b (.py (.bool y))) : EV T ρ (.BoolOp .And [a, b] pos) (.py (.bool (x && y))) := by
  intro O s Q E F k
  show wpAny _ _ (boolOp pos .And [eval a T.env, eval b T.env]) _ _ _
  rw [boolOp_and (by simp)]
  refine wpAny_bind (h1 O s _ E F fun v s1 F1 K1 R1 => wpAny_bind (wpAny_standAt ?_))
  obtain rfl := Rd.bool_inv R1
  refine wpAny_bind (wpAny_holding (wpAny_truthy_bool ?_))
  cases x with
  | false => exact wpAny_pure (k _ s1 F1 K1 (Rd.bool _))
  | true => exact h2 rfl O s1 _ E F1 fun v s2 F2 K2 R2 => k v s2 F2 (K1.trans K2) R2
theorem ev_and3 {a b c : Expr} {pos : Pos} {x y z : Bool} (h1 : EV T ρ a (.py (.bool x))) (h2 : x = true → EV T ρ b (.py (.bool y))) (h3 : x = true → y = true → EV T ρ c (.py (.bool z))) : EV T ρ (.BoolOp .And [a, b, c] pos) (.py (.bool (x && (y && z)))) := by
  intro O s Q E F k
  show wpAny _ _ (boolOp pos .And [eval a T.env, eval b T.env, eval c T.env]) _ _ _
  rw [boolOp_and (by simp)]
  refine wpAny_bind (h1 O s _ E F fun v s1 F1 K1 R1 => wpAny_bind (wpAny_standAt ?_))
  obtain rfl := Rd.bool_inv R1
  refine wpAny_bind (wpAny_holding (wpAny_truthy_bool ?_))
  cases x with
  | false => exact wpAny_pure (k _ s1 F1 K1 (Rd.bool _))
  | true =>
    have := ev_and2 (pos := pos) (h2 rfl) (h3 rfl) O s1 Q E F1 fun v s2 F2 K2 R2 => k v s2 F2 (K1.trans K2) R2
    exact this
theorem ev_not {x : Expr} {pos : Pos} {b : Bool} (h : EV T ρ x (.py (.bool b))) : EV T ρ (.UnaryOp .Not x pos) (.py (.bool (!b))) := by
  intro O s Q E F k
  show wpAny _ _ (do let v ← eval x T.env; standAt pos; holding [v] (unaryOp .Not v)) _ _ _
  refine wpAny_bind (h O s _ E F fun v s1 F1 K1 R1 => wpAny_bind (wpAny_standAt (wpAny_holding ?_)))
  obtain rfl := Rd.bool_inv R1
  exact not_of (wpAny_truthy_bool (k _ s1 F1 K1 (Rd.bool _)))

/-! is -/
theorem op_isNot {s : Shared} {a b : Bool} {v1 v2 : Value} (r1 : RdT T.C.X s.heap v1 (.py (.bool a))) (r2 : RdT T.C.X s.heap v2 (.py (.bool b))) : OP T (compareOp .IsNot v1 v2) s (.py (.bool (!(a == b)))) := by
  obtain rfl := Rd.bool_inv r1; obtain rfl := Rd.bool_inv r2
  intro Q E k
  refine wpAny_isNot_plain (by cases a <;> cases b <;> rfl) (k _ s.heap s.toks (.refl _ _) ?_)
  have e : (Value.bool a == Value.bool b) = (a == b) := by cases a <;> cases b <;> rfl
  rw [e]; exact Rd.bool _
theorem tv_isNot {l r : Expr} {pos : Pos} {a b : Bool} (h1 : EV T ρ l (.py (.bool a))) (h2 : EV T ρ r (.py (.bool b))) : TV T ρ (.Compare l [.IsNot] [r] pos) (!(a == b)) :=
  tv_cmp h1 h2 (hm := marks_of (by decide) (by decide) r) fun O s v1 v2 F r1 r2 => op_isNot r1 r2
theorem op_eqS {s : Shared} {a b : Str} {v1 v2 : Value} (r1 : RdT T.C.X s.heap v1 (.py (.str a))) (r2 : RdT T.C.X s.heap v2 (.py (.str b))) : OP T (compareOp .Eq v1 v2) s (.py (.bool (a == b))) := by
  obtain ⟨t, rfl⟩ := Rd.str_inv r1; obtain ⟨u, rfl⟩ := Rd.str_inv r2
  exact fun Q E k => eq_str (k _ s.heap s.toks (.refl _ _) (Rd.bool _))
theorem op_neS {s : Shared} {a b : Str} {v1 v2 : Value} (r1 : RdT T.C.X s.heap v1 (.py (.str a))) (r2 : RdT T.C.X s.heap v2 (.py (.str b))) : OP T (compareOp .NotEq v1 v2) s (.py (.bool (!(a == b)))) := by
  obtain ⟨t, rfl⟩ := Rd.str_inv r1; obtain ⟨u, rfl⟩ := Rd.str_inv r2
  have e : (a.cps.toList != b.cps.toList) = !(a == b) := by rw [bne, PySem.SeqAt.str_beq]
  exact fun Q E k => PySem.P.ne_str (k _ s.heap s.toks (.refl _ _) (by rw [e]; exact Rd.bool _))
theorem tv_eqS {l r : Expr} {pos : Pos} {a b : Str} (h1 : EV T ρ l (.py (.str a))) (h2 : EV T ρ r (.py (.str b))) : TV T ρ (.Compare l [.Eq] [r] pos) (a == b) :=
  tv_cmp h1 h2 (hm := marks_of (by decide) (by decide) r) fun O s v1 v2 F r1 r2 => op_eqS r1 r2
theorem tv_neS {l r : Expr} {pos : Pos} {a b : Str} (h1 : EV T ρ l (.py (.str a))) (h2 : EV T ρ r (.py (.str b))) : TV T ρ (.Compare l [.NotEq] [r] pos) (!(a == b)) :=
  tv_cmp h1 h2 (hm := marks_of (by decide) (by decide) r) fun O s v1 v2 F r1 r2 => op_neS r1 r2
/-- membership of an int in a list of ints -/
def isInt (a : Int) : Value → Bool
  | .int n _ => n == a
  | _ => false
theorem ints_mem {us : List Value} {ns : List Int} (h : IntsAre us ns) : ∀ y ∈ us, ∃ n t, y = .int n t := by
  induction h with
  | nil => intro y hy; cases hy
  | cons n t _ ih => intro y hy; rcases List.mem_cons.mp hy with rfl | hy; exact ⟨n, t, rfl⟩; exact ih y hy
theorem ints_any {us : List Value} {ns : List Int} (a : Int) (h : IntsAre us ns) : us.any (isInt a) = ns.contains a := by
  induction h with
  | nil => rfl
  | cons n t _ ih =>
    rw [List.any_cons, ih, List.contains_cons]
    congr 1
    show (n == a) = (a == n)
    rw [Bool.eq_iff_iff]; simp only [beq_iff_eq]; exact eq_comm
theorem op_in {s : Shared} {a : Int} {ns : List Int} {v1 v2 : Value} (r1 : RdT T.C.X s.heap v1 (.py (.int a))) (r2 : RdT T.C.X s.heap v2 (.py (.list (ns.map .int)))) : OP T (compareOp .In v1 v2) s (.py (.bool (ns.contains a))) := by
  obtain ⟨t, rfl⟩ := Rd.int_inv r1
  obtain ⟨x, us, rfl, hx, hl, ra⟩ := Rd.list_inv r2
  intro Q E k
  have hi := Rd.intsAre ra
  refine in_listAt (isInt a) hl (fun y hy => ?_) (k _ s.heap s.toks (.refl _ _) ?_)
  · obtain ⟨n, u, rfl⟩ := ints_mem hi y (by simpa using hy)
    exact EqAt.int_int _ _ _ _
  · rw [List.any_toArray, ints_any a hi]; exact Rd.bool _
theorem tv_in {l r : Expr} {pos : Pos} {a : Int} {ns : List Int} (h1 : EV T ρ l (.py (.int a))) (h2 : EV T ρ r (.py (.list (ns.map .int)))) (hm : behindInMarks .In r = false := by rfl) : TV T ρ (.Compare l [.In] [r] pos) (ns.contains a) :=
  tv_cmp h1 h2 (hm := hm) fun O s v1 v2 F r1 r2 => op_in r1 r2

/-! subscripts -/
theorem ev_sub_ {value slice : Expr} {pos : Pos} {d1 d2 d : Dt} (h1 : EV T ρ value d1) (h2 : EV T ρ slice d2) (ho : T.Ok → ∀ s v1 v2, FB T.C T.env ρ s → RdT T.C.X s.heap v1 d1 → RdT T.C.X s.heap v2 d2 → OP T (subscriptTail value slice v1 v2) s d) : EV T ρ (.Subscript value slice pos) d := by
  intro O s Q E F k
  refine Subscript_ (h1 O s _ E F fun v1 s1 F1 K1 R1 => h2 O s1 _ E F1 fun v2 s2 F2 K2 R2 => ?_)
  exact (ho O s2 v1 v2 F2 (Ke.rd (O := O) K2 R1) R2).ev O F2 (K1.trans K2) k
/-- no slice -/
def PlainSub (slice : Expr) : Prop := ∀ o i, subscripted slice false o i = operate [o, i] (getItem o i)
theorem ev_idxL {value slice : Expr} {pos : Pos} {ds : List PyData} {k : Int} {d : PyData} (h1 : EV T ρ value (.py (.list ds))) (h2 : EV T ρ slice (.py (.int k))) (h0 : 0 ≤ k) (hk : k < 2 ^ 62) (hd : ds[k.toNat]? = some d) (hs : PlainSub slice := by intro _ _; rfl) : EV T ρ (.Subscript value slice pos) (.py d) :=
  ev_sub_ h1 h2 fun O s v1 v2 F r1 r2 => by
    obtain ⟨x, us, rfl, hx, hl, ra⟩ := Rd.list_inv r1; obtain ⟨u, rfl⟩ := Rd.int_inv r2
    have hlt : k.toNat < us.length := by rw [ra.1]; exact (List.getElem?_eq_some_iff.mp hd).1
    intro Q E kk
    refine tail_any hl.typeIs slot_list_getitem.lookup (wpAny_getItem_list hl h0 (by omega) (x := us[k.toNat]) (by simp [hlt]) (kk _ s.heap s.toks (.refl _ _) ?_)) (hs _ _)
    exact ra.2 _ _ _ (by simp [hlt]) hd
theorem ev_idxLneg {value slice : Expr} {pos : Pos} {ds : List PyData} {k : Int} {d : PyData} (h1 : EV T ρ value (.py (.list ds))) (h2 : EV T ρ slice (.py (.int k))) (h0 : k < 0) (hlo : -(ds.length : Int) ≤ k) (hk : -(2 ^ 62) < k) (hd : ds[(k + ds.length).toNat]? = some d) (hs : PlainSub slice := by intro _ _; rfl) : EV T ρ (.Subscript value slice pos) (.py d) :=
  ev_sub_ h1 h2 fun O s v1 v2 F r1 r2 => by
    obtain ⟨x, us, rfl, hx, hl, ra⟩ := Rd.list_inv r1; obtain ⟨u, rfl⟩ := Rd.int_inv r2
    have hlt : (k + ds.length).toNat < us.length := by rw [ra.1]; exact (List.getElem?_eq_some_iff.mp hd).1
    have hsz : (us.toArray.size : Int) = ds.length := by rw [List.size_toArray, ra.1]
    intro Q E kk
    refine tail_any hl.typeIs slot_list_getitem.lookup (wpAny_getItem_list_neg hl h0 (by rw [hsz]; exact hlo) (by omega) (x := us[(k + ds.length).toNat]) (by rw [hsz]; simp [hlt]) (kk _ s.heap s.toks (.refl _ _) ?_)) (hs _ _)
    exact ra.2 _ _ _ (by simp [hlt]) hd
theorem ev_idxS {value slice : Expr} {pos : Pos} {x : Str} {k : Int} {c : Nat} (h1 : EV T ρ value (.py (.str x))) (h2 : EV T ρ slice (.py (.int k))) (h0 : 0 ≤ k) (hk : k < 2 ^ 62) (hd : (seqIndex? k x.length).bind (x.cps[·]?) = some c) (hs : PlainSub slice := by intro _ _; rfl) : EV T ρ (.Subscript value slice pos) (.py (.str ⟨#[c]⟩)) :=
  ev_sub_ h1 h2 fun O s v1 v2 F r1 r2 => by
    obtain ⟨t, rfl⟩ := Rd.str_inv r1; obtain ⟨u, rfl⟩ := Rd.int_inv r2
    intro Q E kk
    refine tail_any (typeIs_str _ _ _) PySem.F.slot_str_getitem.lookup (PySem.P.getItem_str ?_ hd (kk _ s.heap _ (.refl _ _) (Rd.str _ _))) (hs _ _)
    simp only [Bool.or_eq_false_iff, decide_eq_false_iff_not]; omega
end
end Mine

end
section
set_option Elab.async false
set_option maxRecDepth 100000
set_option autoImplicit false
set_option linter.unusedVariables false
set_option linter.unusedSimpArgs false
namespace Mine
open PySem PySem.W PyProof.Rows PySem.Calls PySem.SeqAt

def pickL {α : Type} (l : List α) (lo hi : Option Int) : List α := (l.drop (kms_lo lo l.length)).take (kms_hi hi l.length - kms_lo lo l.length)

section
variable {T : Tx} {ρ : Rho}

def EVO (T : Tx) (ρ : Rho) : Option Expr → Option Int → Prop
  | none, none => True
  | some e, some i => EV T ρ e (.py (.int i))
  | _, _ => False
theorem evo_run {o : Option Expr} {i : Option Int} (h : EVO T ρ o i) (O : T.Ok) {s : Shared} {Q : Value → Shared → Prop} {E : Value → Shared → Prop} (F : FB T.C T.env ρ s)
    (k : ∀ v s', FB T.C T.env ρ s' → Ke T.env.locals s s' → IsPart v i → Q v s') : wpAny (model T.prog T.w) T.A (evalPart o T.env) Q E s := by
  cases o with
  | none =>
    cases i with
    | none => rw [evalPart_none]; exact wpAny_pure (k _ s F (.refl _ _) .none)
    | some _ => exact h.elim
  | some e =>
    cases i with
    | none => exact h.elim
    | some i =>
      rw [evalPart_some]
      refine h O s Q E F fun v s' F' K' R' => k v s' F' K' ?_
      obtain ⟨t, rfl⟩ := Rd.int_inv R'
      exact .int _ _

theorem push_stays (h : Heap) (o : Obj) : h.StaysIn (h.push o) := fun b ob e => Heap.get?_push_of_some _ e

theorem RdAll.pick {X : Vol} {h : Heap} {vs : List Value} {ds : List PyData} (a : RdAll X h vs ds) (lo hi : Option Int) : RdAll X h (kms_pick vs lo hi) (pickL ds lo hi) := by
  unfold kms_pick pickL
  rw [a.1]
  exact (a.drop _).take _

theorem ev_sliceL {value : Expr} {lower upper : Option Expr} {p pos : Pos} {ds : List PyData} {lo hi : Option Int} (h1 : EV T ρ value (.py (.list ds))) (hl : EVO T ρ lower lo) (hu : EVO T ρ upper hi) (hz : ds.length ≤ sizeLine) :
    EV T ρ (.Subscript value (.Slice lower upper none p) pos) (.py (.list (pickL ds lo hi))) := by
  intro O s Q E F k
  refine Subscript_ (h1 O s _ E F fun v1 s1 F1 K1 R1 => wpAny_Slice (evo_run hl O F1 fun vl s2 F2 K2 P2 => evo_run hu O F2 fun vu s3 F3 K3 P3 => ?_))
  rw [evalPart_none]
  refine wpAny_pure ?_
  obtain ⟨x, us, rfl, hx, hL, ra⟩ := Rd.list_inv (Ke.rd (O := O) (K2.trans K3) R1)
  have F4 := F3.step O.toEOk (.of_stays (push_stays s3.heap { cls := .type "slice", data := .fields #[vl, vu, .none] })) (tk := s3.toks)
  refine tail_any (T := "list") (Heap.IsList.typeIs (s := { s3 with heap := s3.heap.push { cls := .type "slice", data := .fields #[vl, vu, .none] } }) (hL.push _)) slot_list_getitem.lookup
    (wpAny_getItem_list_slice (hL.push _) (Heap.IsSliceOf.new ..) P2 P3 .none (by simp) ?_ (by rw [List.size_toArray, ra.1]; exact hz)) rfl
  have kp : Kp T.env.locals s3.heap _ := .of_stays fun b o e => push_stays _ { cls := .type "list", data := .seq (slicePick us.toArray lo hi none) } b o (push_stays s3.heap { cls := .type "slice", data := .fields #[vl, vu, .none] } b o e)
  refine k _ _ (F3.step O.toEOk kp (tk := s3.toks)) (((K1.trans K2).trans K3).trans (.step kp)) ?_
  refine Rd.mkList (vs := kms_pick us lo hi) (new_off F4) ⟨_, Heap.get?_push_size _ rfl, rfl, 0, by rw [kms_pick_eq]⟩ ?_
  exact (ra.pick lo hi).mono (.of_stays fun b o e => push_stays _ _ b o (push_stays _ _ b o e))

theorem RdAll.reverse {X : Vol} {h : Heap} {vs : List Value} {ds : List PyData} (a : RdAll X h vs ds) : RdAll X h vs.reverse ds.reverse := by
  refine ⟨by simp [a.1], fun i v d e1 e2 => ?_⟩
  by_cases q : i < vs.length
  · rw [List.getElem?_reverse q] at e1
    rw [List.getElem?_reverse (by rw [← a.1]; exact q), ← a.1] at e2
    exact a.2 _ _ _ e1 e2
  · rw [List.getElem?_eq_none (by simp; omega)] at e1; cases e1
theorem ev_revL {value st : Expr} {p pos : Pos} {ds : List PyData} (h1 : EV T ρ value (.py (.list ds))) (hst : EV T ρ st (.py (.int (-1)))) (hz : ds.length ≤ sizeLine) :
    EV T ρ (.Subscript value (.Slice none none (some st) p) pos) (.py (.list ds.reverse)) := by
  intro O s Q E F k
  refine Subscript_ (h1 O s _ E F fun v1 s1 F1 K1 R1 => wpAny_Slice ?_)
  rw [evalPart_none]
  refine wpAny_pure (wpAny_pure ?_)
  rw [evalPart_some]
  refine hst O s1 _ E F1 fun v3 s3 F3 K3 R3 => ?_
  obtain ⟨t3, rfl⟩ := Rd.int_inv R3
  obtain ⟨x, us, rfl, hx, hL, ra⟩ := Rd.list_inv (Ke.rd (O := O) K3 R1)
  have F4 := F3.step O.toEOk (.of_stays (push_stays s3.heap { cls := .type "slice", data := .fields #[.none, .none, .int (-1) t3] })) (tk := s3.toks)
  refine tail_any (T := "list") (Heap.IsList.typeIs (s := { s3 with heap := s3.heap.push { cls := .type "slice", data := .fields #[.none, .none, .int (-1) t3] } }) (hL.push _)) slot_list_getitem.lookup
    (wpAny_getItem_list_slice (hL.push _) (Heap.IsSliceOf.new ..) .none .none (.int (-1) t3) (by decide) ?_ (by rw [List.size_toArray, ra.1]; exact hz)) rfl
  have kp : Kp T.env.locals s3.heap _ := .of_stays fun b o e => push_stays _ { cls := .type "list", data := .seq (slicePick us.toArray none none (some (-1))) } b o (push_stays s3.heap { cls := .type "slice", data := .fields #[.none, .none, .int (-1) t3] } b o e)
  refine k _ _ (F3.step O.toEOk kp (tk := s3.toks)) ((K1.trans K3).trans (.step kp)) ?_
  refine Rd.mkList (vs := us.reverse) (new_off F4) ⟨_, Heap.get?_push_size _ rfl, rfl, 0, by rw [krv_pick]⟩ ?_
  exact ra.reverse.mono (.of_stays fun b o e => push_stays _ _ b o (push_stays _ _ b o e))

theorem letGo_str {value : Expr} {x : Str} {t : Tok} (r : Value) : letTemporaryGo value (.str x t) r = pure () := by cases value <;> rfl
theorem ev_sliceS_to {value u : Expr} {p pos : Pos} {x : Str} {k : Int} (h1 : EV T ρ value (.py (.str x))) (hu : EV T ρ u (.py (.int k))) (hz : x.length ≤ sizeLine) :
    EV T ρ (.Subscript value (.Slice none (some u) none p) pos) (.py (.str (Txt.slice x none (some k)))) := by
  intro O s Q E F kk
  refine Subscript_ (h1 O s _ E F fun v1 s1 F1 K1 R1 => wpAny_Slice ?_)
  rw [evalPart_none]
  refine wpAny_pure ?_
  rw [evalPart_some]
  refine hu O s1 _ E F1 fun v3 s3 F3 K3 R3 => wpAny_pure ?_
  obtain ⟨t3, rfl⟩ := Rd.int_inv R3
  obtain ⟨t, rfl⟩ := Rd.str_inv R1
  obtain ⟨m, hm, _⟩ := F3.fr
  refine slice_strN_ns (s := s3) (fr_all hm) (news_all _ _) (fun h' t' tk F' N' => ?_) rfl letGo_str hz
  have kp := kp_eq hm F' N'
  exact kk _ _ (F3.step O.toEOk kp) ((K1.trans K3).trans (.step kp)) (Rd.str _ _)
theorem ev_sliceS_from {value l : Expr} {p pos : Pos} {x : Str} {k : Int} (h1 : EV T ρ value (.py (.str x))) (hl : EV T ρ l (.py (.int k))) (hz : x.length ≤ sizeLine) :
    EV T ρ (.Subscript value (.Slice (some l) none none p) pos) (.py (.str (Txt.slice x (some k) none))) := by
  intro O s Q E F kk
  refine Subscript_ (h1 O s _ E F fun v1 s1 F1 K1 R1 => wpAny_Slice ?_)
  rw [evalPart_some]
  refine hl O s1 _ E F1 fun v3 s3 F3 K3 R3 => ?_
  rw [evalPart_none]
  refine wpAny_pure (wpAny_pure ?_)
  obtain ⟨t3, rfl⟩ := Rd.int_inv R3
  obtain ⟨t, rfl⟩ := Rd.str_inv R1
  obtain ⟨m, hm, _⟩ := F3.fr
  refine slice_strN_sn (s := s3) (fr_all hm) (news_all _ _) (fun h' t' tk F' N' => ?_) rfl letGo_str hz
  have kp := kp_eq hm F' N'
  exact kk _ _ (F3.step O.toEOk kp) ((K1.trans K3).trans (.step kp)) (Rd.str _ _)

/-! sorted, tuple, sum, isinstance -/
theorem Rd.strsAre {X : Vol} {h : Heap} : ∀ {vs : List Value} {ns : List Str}, RdAll X h vs (ns.map .str) → StrsAre vs ns
  | vs, [], r => by obtain rfl := RdAll.inv_nil (vs := vs) r; exact .nil
  | vs, n :: ns, r => by
    obtain ⟨v, vs', rfl, a, b⟩ := RdAll.inv_cons (d := .str n) (ds := ns.map .str) (by simpa using r)
    obtain ⟨t, rfl⟩ := a.str_inv
    exact .cons n t (Rd.strsAre b)
theorem rdAll_strs {X : Vol} {h : Heap} {vs : List Value} {ns : List Str} (a : StrsAre vs ns) : RdAll X h vs (ns.map .str) := by
  induction a with
  | nil => exact .nil
  | cons n t _ ih => exact .cons (.str n t) ih

theorem op_sorted {s : Shared} {vs : List Value} {ss out : List Str} (F : FB T.C T.env ρ s) (r : RdTs T.C.X s.heap vs [.py (.list (ss.map .str))]) (h64 : ss.length < 64)
    (hu : ∀ ss', ss'.Perm ss → sortedS ss' = true → ss' = out) : OP T (call (.builtin "sorted") vs) s (.py (.list (out.map .str))) := by
  obtain ⟨v, rfl, r0⟩ := r.one
  obtain ⟨x, us, rfl, hx, hl, ra⟩ := Rd.list_inv r0
  have hlen : us.length = ss.length := by rw [ra.1]; simp
  intro Q E k
  refine sorted_strs hl (Rd.strsAre ra) (by omega) fun o ss' h1 h2 h3 => ?_
  obtain rfl := hu ss' h2 h3
  obtain ⟨e, he⟩ := sortedAll_at s.heap us o
  have st : s.heap.StaysIn (sortedAll s.heap us o) := fun b ob q => sortedAll_old q
  refine k _ _ s.toks (.of_stays st) (Rd.mkList (vs := o.toList) (none_off F ?_) ⟨_, he, rfl, e, by simp⟩ (rdAll_strs h1))
  cases q : s.heap.get? (s.heap.objs.size + 1) with
  | none => rfl
  | some ob => have := Heap.lt_size q; exact absurd (Nat.lt_of_succ_lt this) (Nat.lt_irrefl _)

theorem new_of_lt {C : Cx} {env : Env} {s : Shared} (F : FB C env ρ s) {D : Addr} (hn : D ≠ env.locals) (hlt : ∀ p ∈ allBut env.locals s.heap, p.1 < D) : ¬ C.X D := none_off F (by
  cases q : s.heap.get? D with
  | none => rfl
  | some o => exact absurd (hlt _ (mem_allBut.mpr ⟨hn, q⟩)) (Nat.lt_irrefl _))
theorem op_tuple (O : T.Ok) {s : Shared} {vs : List Value} {ds : List PyData} (F : FB T.C T.env ρ s) (r : RdTs T.C.X s.heap vs [.py (.list ds)]) (hz : ds.length ≤ 16384) : OP T (call (.type "tuple") vs) s (.py (.tuple ds)) := by
  obtain ⟨v, rfl, r0⟩ := r.one
  obtain ⟨x, us, rfl, hx, hl, ra⟩ := Rd.list_inv r0
  obtain ⟨m, hm, _⟩ := F.fr
  intro Q E k
  refine kde_tupleOf (fr_all hm) (news_all _ _) hl (by rw [List.size_toArray, ra.1]; exact hz) (zs := us) (by simp) fun D h' F' N' hlt => ?_
  have kp := kp_tl hm F' N'
  have hN := N' _ List.mem_cons_self
  refine k _ h' s.toks kp (Rd.mkTuple (vs := us) (new_of_lt F hN.2.1 hlt) ⟨_, hN.1, rfl, 0, rfl⟩ ?_)
  exact ra.mono (.of fun b o n e => kp.keep b o (fun q => n (q ▸ O.wx _ O.wl)) e)
theorem op_isi {s : Shared} {vs : List Value} {n : Int} (r : RdTs T.C.X s.heap vs [.py (.int n), .val (.type "bool")]) : OP T (call (.builtin "isinstance") vs) s (.py (.bool false)) := by
  obtain ⟨v, u, rfl, r1, r2⟩ := r.two
  obtain ⟨t, rfl⟩ := Rd.int_inv r1
  obtain rfl : u = .type "bool" := r2
  exact fun Q E k => IsiPair.int_bool (k _ s.heap _ (.refl _ _) (Rd.bool _))
theorem op_sum (O : T.Ok) {s : Shared} {vs : List Value} {ns : List Int} (F : FB T.C T.env ρ s) (r : RdTs T.C.X s.heap vs [.py (.list (ns.map .int))]) : OP T (call (.builtin "sum") vs) s (.py (.int ns.sum)) := by
  obtain ⟨v, rfl, r0⟩ := r.one
  obtain ⟨x, us, rfl, hx, hl, ra⟩ := Rd.list_inv r0
  have hne : x ≠ s.heap.objs.size := fun z => by subst z; obtain ⟨o, ho, _⟩ := hl; rw [size_none] at ho; cases ho
  have hlen : us.length = ns.length := by rw [ra.1]; simp
  intro Q E k
  refine call_sum_walkAnyS (wpAny_pyIter_list hl ?_)
  have W := Walks.list (prog := T.prog) (w := T.w) (A := T.A.in1) O.handled s.heap.objs.size x hne us.toArray
  refine ⟨_, _, _, _, _, _, _, fun i => ns.getD i 0, rfl, W.toS, ⟨⟨_, Heap.get?_push_size _ rfl, rfl, rfl⟩, hl.push _⟩, ?_, ?_, ?_⟩
  · intro b hb
    rw [Heap.size_push]
    rcases List.mem_cons.mp hb with rfl | hb
    · exact Nat.lt_succ_self _
    · rw [List.mem_singleton.mp hb]; obtain ⟨o, ho, _⟩ := hl; exact Nat.lt_succ_of_lt (Heap.lt_size ho)
  · intro i u hu
    have hu' : us[i]? = some u := by simpa using hu
    have hi : i < ns.length := by rw [← hlen]; exact (List.getElem?_eq_some_iff.mp hu').1
    have := ra.2 i u (.int ns[i]) hu' (by simp [hi])
    obtain ⟨t, rfl⟩ := Rd.int_inv this
    exact ⟨t, by simp [hi]⟩
  · intro s' t' mv
    have kp : Kp T.env.locals s.heap s'.heap := .of_stays fun b o e => mv.heap b o (by simp; exact fun z => by subst z; rw [size_none] at e; cases e) (Heap.get?_push_of_some _ e)
    have e1 : s' = { s with heap := s'.heap, toks := s'.toks } := by
      obtain ⟨h1, g1, d1, t1, o1⟩ := s'
      have a1 : g1 = s.gens := mv.gens
      have a2 : d1 = s.drawn := mv.drawn
      have a3 : o1 = s.os := mv.os
      subst a1 a2 a3; rfl
    rw [e1]
    refine k _ _ _ kp ?_
    rw [List.size_toArray, hlen, PyProof.Rows.preSum_getD, List.take_length]
    exact Rd.int _ _
end
end Mine

end
section
set_option Elab.async false
set_option maxRecDepth 100000
set_option autoImplicit false
set_option linter.unusedVariables false
set_option linter.unusedSimpArgs false
namespace Mine
open PySem PySem.W PyProof.Rows PySem.Calls PySem.SeqAt

section
variable {T : Tx} {ρ : Rho}

theorem eval_mcall {o : Expr} {name : Str} {apos pos : Pos} {es : List Expr} {env : Env} : eval (.Call (.Attribute o name apos) es [] pos) env = (do
    let ov ← attributeBase o name env (eval o env)
    standAt apos.atName
    methodCall o name apos pos env ov (es.length + ([] : List Keyword).length) (backTo pos (starEach es env)) (backToKw pos (keywordEach [] env))) := rfl

theorem mcall_ {o : Expr} {name : Str} {apos pos : Pos} {es : List Expr} {d : Dt} {Q : Value → Shared → Prop} {E : Value → Shared → Prop} {s : Shared} {f : Value → Value} (ho : EV T ρ o d) (O : T.Ok) (F : FB T.C T.env ρ s)
    (hm : ∀ s v, FB T.C T.env ρ s → RdT T.C.X s.heap v d → ∀ pl (Q : Value × List Value → Shared → Prop) E, Q (f v, [v]) s → wpAny (model T.prog T.w) T.A (getMethod v name pl) Q E s)
    (k : ∀ v s', FB T.C T.env ρ s' → Ke T.env.locals s s' → RdT T.C.X s'.heap v d → wpAny (model T.prog T.w) T.A (callWith pos (f v) [v] (backTo pos (starEach es T.env)) []) Q E s')
    (hb : attributeBase o name T.env (eval o T.env) = eval o T.env) (hline : (apos.endLine == pos.line) = true)
    (hf : methodCallForm (es.length + ([] : List Keyword).length) (backTo pos (starEach es T.env)) (backToKw pos (keywordEach [] T.env)) = true) :
    wpAny (model T.prog T.w) T.A (eval (.Call (.Attribute o name apos) es [] pos) T.env) Q E s := by
  rw [eval_mcall, hb]
  refine wpAny_bind (ho O s _ E F fun v s1 F1 K1 R1 => wpAny_bind (wpAny_standAt ?_))
  have hpos : methodCallPos true o T.env apos pos = pure pos := by unfold methodCallPos; simp [hline]
  unfold methodCall
  rw [hf]
  refine wpAny_bind (wpAny_holding (hm s1 v F1 R1 _ _ _ ?_))
  exact wpAny_bind (wpAny_of_eq hpos (k v s1 F1 K1 R1))

/-- a method of a built-in type -/
theorem ev_mcallB {o : Expr} {name : Str} {apos pos : Pos} {es : List Expr} {d : Dt} {ds : List Dt} {r : Dt} {f : Value} (ho : EV T ρ o d) (ha : EVs T ρ es ds) (hr : ∀ a, f ≠ .ref a)
    (hm : ∀ s v, FB T.C T.env ρ s → RdT T.C.X s.heap v d → ∀ pl (Q : Value × List Value → Shared → Prop) E, Q (f, [v]) s → wpAny (model T.prog T.w) T.A (getMethod v name pl) Q E s)
    (hc : T.Ok → ∀ s v vs, FB T.C T.env ρ s → RdT T.C.X s.heap v d → RdTs T.C.X s.heap vs ds → OP T (call f (v :: vs)) s r)
    (hb : attributeBase o name T.env (eval o T.env) = eval o T.env := by rfl) (hline : (apos.endLine == pos.line) = true := by rfl)
    (hf : methodCallForm (es.length + ([] : List Keyword).length) (backTo pos (starEach es T.env)) (backToKw pos (keywordEach [] T.env)) = true := by rfl) (hp : (starEach es T.env).any (·.1) = false := by rfl) :
    EV T ρ (.Call (.Attribute o name apos) es [] pos) r := fun O s Q E F k =>
  mcall_ (f := fun _ => f) ho O F hm (fun v s1 F1 K1 R1 => callWith_plain (plain_any hp) hr (evalArgs_of hp (ha O pos s1 _ E F1 fun vs s2 F2 K2 R2 => (hc O s2 v vs F2 (Ke.rd (O := O) K2 R1) R2).ev O F2 (K1.trans K2) k))) hb hline hf
/-- a method of the text's class -/
theorem ev_mcall {o : Expr} {name : Str} {apos pos : Pos} {es : List Expr} {d : Dt} {ds : List Dt} {r : Dt} {f : Addr} {n : Nat} (ho : EV T ρ o d) (ha : EVs T ρ es ds)
    (hm : ∀ s v, FB T.C T.env ρ s → RdT T.C.X s.heap v d → ∀ pl (Q : Value × List Value → Shared → Prop) E, Q (.ref f, [v]) s → wpAny (model T.prog T.w) T.A (getMethod v name pl) Q E s)
    (hc : CT T.prog T.w T.K T.mg T.mb n (.ref f) (d :: ds) r) (hn : n ≤ T.n) (hk : keepIn T.K (.ref f) = true)
    (hb : attributeBase o name T.env (eval o T.env) = eval o T.env := by rfl) (hline : (apos.endLine == pos.line) = true := by rfl)
    (hf : methodCallForm (es.length + ([] : List Keyword).length) (backTo pos (starEach es T.env)) (backToKw pos (keywordEach [] T.env)) = true := by rfl) (hp : (starEach es T.env).any (·.1) = false := by rfl) :
    EV T ρ (.Call (.Attribute o name apos) es [] pos) r := fun O s Q E F k =>
  mcall_ (f := fun _ => .ref f) ho O F hm (fun v s1 F1 K1 R1 => by
    refine callWith_of (P := T.K.In) (by rw [plain_any hp]; rfl) (keeps_K hk) ?_
    refine evalArgs_of hp (ha O pos s1 _ E F1 fun vs s2 F2 K2 R2 => ⟨O.md.kin.keeps F2.old, ?_⟩)
    refine hc T.C.X T.A s2 _ Q E (O.md.keeps F2.old) ⟨O.handled, by have := O.depth; omega, by have := O.units; omega⟩ F2.bare F2.xin ⟨Ke.rd (O := O) K2 R1, R2⟩ fun v s3 g R => ?_
    exact k v s3 (F2.gr g) ((K1.trans K2).trans (.gr g)) R) hb hline hf

/-! split, join -/
theorem ev_split {o e : Expr} {apos pos : Pos} {x y : Str} (ho : EV T ρ o (.py (.str x))) (he : EVs T ρ [e] [.py (.str y)]) (hy : (y.length == 0) = false) (hz : x.length + 2 ≤ sizeLine)
    (hb : attributeBase o "split" T.env (eval o T.env) = eval o T.env := by rfl) (hline : (apos.endLine == pos.line) = true := by rfl)
    (hf : methodCallForm ([e].length + ([] : List Keyword).length) (backTo pos (starEach [e] T.env)) (backToKw pos (keywordEach [] T.env)) = true := by rfl) (hp : (starEach [e] T.env).any (·.1) = false := by rfl) :
    EV T ρ (.Call (.Attribute o "split" apos) [e] [] pos) (.py (.list ((Txt.split x y).map .str))) := by
  refine ev_mcallB (f := .builtin "str.split") ho he (fun _ q => by cases q) (fun s v F r pl Q E h => ?_) (fun O s v vs F r1 r2 => ?_) hb hline hf hp
  · obtain ⟨t, rfl⟩ := Rd.str_inv r; exact GM.split h
  · obtain ⟨u, rfl, r3⟩ := r2.one
    obtain ⟨t, rfl⟩ := Rd.str_inv r1; obtain ⟨t', rfl⟩ := Rd.str_inv r3
    obtain ⟨m, hm, _⟩ := F.fr
    intro Q E k
    refine splitN1A (fr_all hm) (news_all _ _) hy (fun l h' tk e1 e2 e3 hl F' N' => ?_) hz
    have kp := kp_tl hm F' N'
    refine k _ h' tk kp (Rd.mkList (vs := strValues l) (new_off F) hl ?_)
    rw [← e1]
    exact rdAll_strs e2
theorem ev_join {o e : Expr} {apos pos : Pos} {x : Str} {ys : List Str} (ho : EV T ρ o (.py (.str x))) (he : EVs T ρ [e] [.py (.list (ys.map .str))]) (hz : (ys.map (·.length)).sum + ys.length * x.length ≤ 16777216)
    (hb : attributeBase o "join" T.env (eval o T.env) = eval o T.env := by rfl) (hline : (apos.endLine == pos.line) = true := by rfl)
    (hf : methodCallForm ([e].length + ([] : List Keyword).length) (backTo pos (starEach [e] T.env)) (backToKw pos (keywordEach [] T.env)) = true := by rfl) (hp : (starEach [e] T.env).any (·.1) = false := by rfl) :
    EV T ρ (.Call (.Attribute o "join" apos) [e] [] pos) (.py (.str (Txt.join x ys))) := by
  refine ev_mcallB (f := .builtin "str.join") ho he (fun _ q => by cases q) (fun s v F r pl Q E h => ?_) (fun O s v vs F r1 r2 => ?_) hb hline hf hp
  · obtain ⟨t, rfl⟩ := Rd.str_inv r; exact GM.join h
  · obtain ⟨u, rfl, r3⟩ := r2.one
    obtain ⟨t, rfl⟩ := Rd.str_inv r1
    obtain ⟨a, us, rfl, hx, hl, ra⟩ := Rd.list_inv r3
    intro Q E k
    exact join_list hl (by simpa using Rd.strsAre ra) hz fun t' tk => k _ s.heap tk (.refl _ _) (Rd.str _ _)
end
end Mine

end
section
set_option Elab.async false
set_option maxRecDepth 100000
set_option autoImplicit false
set_option linter.unusedVariables false
set_option linter.unusedSimpArgs false
namespace Mine
open PySem PySem.W PyProof.Rows PySem.Calls PySem.SeqAt

/-- the context of a comprehension's block: C its frame, D the list that it fills, s₂ the state that it starts from -/
def Tx.comp (T : Tx) (scope : Scope) (cl : List (Str × Addr)) (C D : Addr) (s₂ : Shared) : Tx :=
  { T with env := compEnvC scope cl C T.env, C := ⟨fun a => T.C.X a ∨ a = C ∨ a = D, fun a => a = C, s₂⟩ }

/-- the outer names that the block sees through cells -/
def Vis (T : Tx) (scope : Scope) (cl : List (Str × Addr)) (ρ ρc : Rho) : Prop :=
  ∀ p ∈ ρc, ρ.lookup p.1 = some p.2 ∧ (T.env.kindOf p.1 = some .cell ∨ T.env.kindOf p.1 = some .free) ∧ ((relabel scope T.env).names.lookup p.1 = some .cell ∨ (relabel scope T.env).names.lookup p.1 = some .free) ∧ cl.lookup p.1 = T.env.cells.lookup p.1
theorem vis_nil {T : Tx} {scope : Scope} {cl : List (Str × Addr)} {ρ : Rho} : Vis T scope cl ρ [] := fun _ h => nomatch h
theorem vis_cons {T : Tx} {scope : Scope} {cl : List (Str × Addr)} {ρ ρc : Rho} {x : Str} {d : Dt} (h1 : ρ.lookup x = some d) (h2 : T.env.kindOf x = some .cell) (h3 : (relabel scope T.env).names.lookup x = some .cell) (h4 : cl.lookup x = T.env.cells.lookup x) (h : Vis T scope cl ρ ρc) : Vis T scope cl ρ ((x, d) :: ρc) := by
  intro p hp
  rcases List.mem_cons.mp hp with rfl | hp
  · exact ⟨h1, .inl h2, .inl h3, h4⟩
  · exact h p hp

theorem closure_sub {env : Env} : ∀ (names : List (Str × NameKind)) (acc cl : List (Str × Addr)), (∀ p ∈ acc, env.cells.lookup p.1 = some p.2) →
    (forIn names acc fun (x : Str × NameKind) (r : List (Str × Addr)) => (match x with
      | (name, kind) => if (kind == NameKind.free) = true then (do let c ← cellOf env name; pure (ForInStep.yield ((name, c) :: r))) else pure (ForInStep.yield r) : Sem (ForInStep (List (Str × Addr))))) = pure cl → ∀ p ∈ cl, env.cells.lookup p.1 = some p.2
  | [], acc, cl, ha, h => by
    rw [List.forIn_nil] at h
    have : acc = cl := by injection h
    exact this ▸ ha
  | (n, k) :: r, acc, cl, ha, h => by
    rw [List.forIn_cons] at h
    dsimp only at h
    split at h
    · unfold cellOf at h
      cases q : env.cells.lookup n with
      | none => rw [q] at h; cases h
      | some c =>
        rw [q] at h
        refine closure_sub r ((n, c) :: acc) cl (fun p hp => ?_) h
        rcases List.mem_cons.mp hp with rfl | hp
        · exact q
        · exact ha p hp
    · exact closure_sub r acc cl ha h
theorem closureFor_sub {scope : Scope} {env : Env} {cl : List (Str × Addr)} (h : closureFor scope env = pure cl) : ∀ x c, cl.lookup x = some c → env.cells.lookup x = some c := by
  intro x c hx
  have := closure_sub (env := env) scope.names [] cl (fun _ hp => nomatch hp) (by
    rw [← h]; unfold closureFor; rw [bind_pure])
  exact this (x, c) (mem_of_lookup hx)

section
variable {T : Tx} {ρ : Rho}

def Tests (T : Tx) (ρ : Rho) (ifs : List Expr) (b : Bool) : Prop := match ifs with
  | [] => b = true
  | [c] => TV T ρ c b
  | _ => False

theorem filter_range_succ (p : Nat → Bool) (f : Nat → PyData) (i : Nat) : ((List.range (i + 1)).filter p).map f = ((List.range i).filter p).map f ++ (if p i = true then [f i] else []) := by
  rw [List.range_succ, List.filter_append, List.map_append]
  congr 1
  cases h : p i <;> simp [h]

/-- a list comprehension of one clause: p tests, f makes the element -/
theorem comp_core {ρc : Rho} {elt iter : Expr} {x : Str} {px pos : Pos} {ifs : List Expr} {scope : Scope} {cl : List (Str × Addr)} {items : List PyData} (p : Nat → Bool) (f : Nat → PyData)
    (hclos : closureFor scope T.env = pure cl) (hkind : scope.kind = .function) (hcell : ∀ y ∈ scope.names, y.2 ≠ .cell) (hx : scope.names.lookup x = some .local) (hvis : Vis T scope cl ρ ρc) (hz : items.length ≤ sizeLine)
    (ht : ∀ C D s₂ (i : Nat) d, items[i]? = some d → Tests (T.comp scope cl C D s₂) ((x, .py d) :: ρc) ifs (p i))
    (he : ∀ C D s₂ (i : Nat) d, items[i]? = some d → p i = true → EV (T.comp scope cl C D s₂) ((x, .py d) :: ρc) elt (.py (f i)))
    (O : T.Ok) {s₂ : Shared} (F₂ : FB T.C T.env ρ s₂) {I : Addr} {fp : List Addr} {P : Nat → Value → Prop} {St : Nat → Heap → Prop} (W : Walk T items I s₂ fp P St) (hI0 : T.C.s₀.heap.get? I = none)
    {RR : Value → Addr → Result → Shared → Prop} {E : Value → Shared → Prop}
    (hRR : ∀ D C s' m, s₂.heap.get? D = none → s₂.heap.get? C = none → D ≠ C → s'.heap.Ns C m → Gb I s₂ s' → ¬ T.C.X D → (∃ vs, s'.heap.IsList D vs.toArray ∧ RdAll (fun a => T.C.X a ∨ a = C ∨ a = D) s'.heap vs (((List.range items.length).filter p).map f)) → RR (.ref D) C (.ok .next) s') :
    wpAny (model T.prog T.w) T.A (newList []) (fun acc s₃ => wpAny (model T.prog T.w) T.A (newFunctionEnv scope T.env.globals cl [] T.env.qual none .none (some T.env)) (fun cenv s₄ =>
      codeAny (model T.prog T.w) T.A (.compStart (.ListComp elt [⟨.Name x px, iter, ifs, 0⟩] scope pos) 0 (.ref I) acc { cenv with scope := relabel scope T.env }) (RR acc cenv.locals) s₄) E s₃) E s₂ := by
  refine wpAny_newObj_type (wpAny_newFunctionEnv hcell (by intro y hy; simp at hy) (fun h₁ hns₁ hsb₁ => ?_) hkind)
  dsimp only at hns₁ hsb₁ ⊢
  generalize hH2 : s₂.heap.push { cls := .type "list", dict := none, data := .seq ([] : List Value).toArray } = H2 at hns₁ hsb₁ ⊢
  generalize hDd : s₂.heap.objs.size = D at hns₁ hsb₁ ⊢
  generalize hCd : H2.objs.size = C at hns₁ hsb₁ ⊢
  have hC : C = D + 1 := by rw [← hCd, ← hH2, Heap.size_push, hDd]
  have hDC : D ≠ C := by omega
  have hD0 : s₂.heap.get? D = none := hDd ▸ size_none _
  have hC0 : s₂.heap.get? C = none := by
    cases q : s₂.heap.get? C with
    | none => rfl
    | some o => have := Heap.lt_size q; rw [hDd, hC] at this; exact absurd this (Nat.not_lt.mpr (Nat.le_succ _))
  have old : ∀ b o, s₂.heap.get? b = some o → h₁.get? b = some o := fun b o e => hsb₁.extBut b o (fun z => by rw [z, hC0] at e; cases e) (Heap.get?_push_of_some _ (hH2 ▸ Heap.get?_push_of_some _ e))
  have hacc : h₁.IsList D (#[] : Array Value) := ⟨_, hsb₁.extBut _ _ hDC (Heap.get?_push_of_some _ (hH2 ▸ hDd ▸ Heap.get?_push_size _ rfl)), rfl, 0, rfl⟩
  have hXD : ¬ T.C.X D := none_off F₂ hD0
  have hXC : ¬ T.C.X C := none_off F₂ hC0
  have hXI : ¬ T.C.X I := W.off I W.inI
  obtain ⟨oI, hoI⟩ := W.fpin I W.inI
  have hID : I ≠ D := fun z => by rw [z, hD0] at hoI; cases hoI
  have hIC : I ≠ C := fun z => by rw [z, hC0] at hoI; cases hoI
  have hfp : ∀ b ∈ fp, b ≠ C ∧ b ≠ D := fun b hb => by
    obtain ⟨o, ho⟩ := W.fpin b hb
    exact ⟨fun z => (by rw [z, hC0] at ho; cases ho), fun z => (by rw [z, hD0] at ho; cases ho)⟩
  have hirr : ∀ o, s₂.heap.get? I = some o → ¬ Rel o := fun o ho => W.irr 0 _ o W.start ho
  have hsub := closureFor_sub hclos
  generalize hs₂' : ({ s₂ with heap := s₂.heap.hide I } : Shared) = s₂'
  have hh0 : ∀ b o, s₂'.heap.get? b = some o → b ≠ I ∧ s₂.heap.get? b = some o := fun b o e => by
    subst hs₂'
    by_cases z : b = I
    · subst z; rw [Heap.hide_self] at e; cases e
    · exact ⟨z, by rw [← Heap.hide_ne s₂.heap z]; exact e⟩
  have hold : T.C.s₀.heap.StaysIn s₂'.heap := fun b o e => by
    subst hs₂'
    have z : b ≠ I := fun z => by rw [z, hI0] at e; cases e
    show (s₂.heap.hide I).get? b = some o
    rw [Heap.hide_ne s₂.heap z]; exact F₂.old b o e
  have O' : (T.comp scope cl C D s₂').Ok :=
    { md := O.md.keeps hold, kind := hkind, glob := O.glob, bui := O.bui, wl := rfl, wx := fun a ha => .inr (.inl ha)
      wnew := fun a ha => by
        show s₂'.heap.get? a = none
        cases q : s₂'.heap.get? a with
        | none => rfl
        | some o => obtain ⟨_, q'⟩ := hh0 a o q; rw [show a = C from ha, hC0] at q'; cases q'
      cne := fun y c hc z => hXC ((show c = C from z) ▸ O.cx y c (hsub y c hc))
      capart := fun y y' c h1 h2 => O.capart y y' c (hsub y c h1) (hsub y' c h2)
      cx := fun y c hc => .inl (O.cx y c (hsub y c hc))
      handled := O.handled, depth := O.depth, units := O.units }
  have hvol : ∀ a o, s₂.heap.get? a = some o → (T.comp scope cl C D s₂').C.X a → T.C.X a := by
    rintro a o e (q | q | q)
    · exact q
    · rw [q, hC0] at e; cases e
    · rw [q, hD0] at e; cases e
  have mk : ∀ {s : Shared} {m : Str → Option Value}, Gb I s₂ s → s.heap.Ns C m → (∃ o, s.heap.get? D = some o) → FB (T.comp scope cl C D s₂').C (T.comp scope cl C D s₂').env ρc s := by
    intro s m g hn hD
    refine ⟨⟨fun b o e => ?_, ?_, ?_, ?_, g.bare F₂.bare, ?_⟩, fun y c hc => ?_, m, hn, fun y d hy => ?_⟩
    · obtain ⟨z, e'⟩ := hh0 b o e; exact g.heap b o z e'
    · subst hs₂'; exact g.os
    · subst hs₂'; exact g.drawn
    · subst hs₂'; exact g.gens
    · rintro a (q | q | q)
      · obtain ⟨o, ho⟩ := F₂.xin a q; exact ⟨o, g.heap a o (fun z => hXI (z ▸ q)) ho⟩
      · obtain ⟨o, _, _, ho, _⟩ := hn; exact ⟨o, q ▸ ho⟩
      · exact q ▸ hD
    · obtain ⟨v, o, ho, hd⟩ := F₂.cl y c (hsub y c hc)
      exact ⟨v, o, g.heap c o (fun z => hXI (z ▸ O.cx y c (hsub y c hc))) ho, hd⟩
    · obtain ⟨h1, h2, h3, h4⟩ := hvis (y, d) (mem_of_lookup hy)
      obtain ⟨m₂, hm₂, hv₂⟩ := F₂.fr
      obtain ⟨v, hv, hr⟩ := hv₂ y d h1
      have hkx : Kx (T.comp scope cl C D s₂').C.X s₂.heap s.heap := fun b o _ r e => g.heap b o (fun z => by subst z; exact hirr o e r) e
      refine ⟨v, ?_, (hr.vol hvol).mono hkx⟩
      rcases hv with ⟨hv, _⟩ | ⟨_, c, hc, ⟨o, ho, hd⟩, hXc, _⟩
      · rcases h2 with h2 | h2 <;> (dsimp only at h2; rw [hv] at h2; cases h2)
      · exact .inr ⟨h3, c, h4.trans hc, ⟨o, g.heap c o (fun z => hXI (z ▸ hXc)) ho, hd⟩, .inl hXc, fun z => hXC ((show c = C from z) ▸ hXc)⟩
  have g1 : Gb I s₂ { s₂ with heap := h₁, toks := s₂.toks + ([] : List (Str × Value)).length } := ⟨fun b o _ e => old b o e, rfl, rfl, fun _ _ e => e, id⟩
  have hst₁ : St 0 h₁ := W.walks.frame _ _ _ W.start fun b _ o e => old b o e
  have loop : ∀ s₃ : Shared, s₃ = { s₂ with heap := h₁, toks := s₂.toks + ([] : List (Str × Value)).length } →
      codeAny (model T.prog T.w) T.A (.compLoop (.ListComp elt [⟨.Name x px, iter, ifs, 0⟩] scope pos) 0 (.ref I) (.ref D) (compEnvC scope cl C T.env)) (RR (.ref D) C) s₃ := by
    rintro s₃ rfl
    refine codeAny_compLoop_tests (fun k s => ∃ i m vs, k = items.length + 1 - i ∧ i ≤ items.length ∧ St i s.heap ∧ s.heap.Ns C m ∧ s.heap.IsList D (List.toArray vs) ∧
      RdAll (T.comp scope cl C D s₂').C.X s.heap vs (((List.range i).filter p).map f) ∧ Gb I s₂ s) ?_ (items.length + 1) ⟨0, _, [], rfl, Nat.zero_le _, hst₁, hns₁, hacc, .nil, g1⟩
    rintro k s ⟨i, m, vs, rfl, hi, hS, hn, hL, hR, g⟩
    by_cases hlt : i < items.length
    · refine W.walks.item i s _ _ hlt hS fun v h' tk hP hS' hk => ?_
      have hd : items[i]? = some items[i] := by simp [hlt]
      have hk' : ∀ b o, b ≠ I → s.heap.get? b = some o → h'.get? b = some o := fun b o z e => hk b o (by simpa using z) e
      have hkx : Kx (T.comp scope cl C D s₂').C.X s.heap h' := fun b o _ r e => hk' b o (fun z => by subst z; exact W.irr _ _ o hS e r) e
      have g3 : Gb I s₂ { s with heap := h', toks := tk } := ⟨fun b o z e => hk' b o z (g.heap b o z e), g.os, g.drawn, g.gens, g.bare⟩
      have hn3 : h'.Ns C m := by obtain ⟨o, es, ep, ho, r⟩ := hn; exact ⟨o, es, ep, hk' _ _ (Ne.symm hIC) ho, r⟩
      have hL3 : h'.IsList D (List.toArray vs) := by obtain ⟨o, ho, r⟩ := hL; exact ⟨o, hk' _ _ (Ne.symm hID) ho, r⟩
      have F3 := mk (s := { s with heap := h', toks := tk }) g3 hn3 (by obtain ⟨o, ho, _⟩ := hL3; exact ⟨o, ho⟩)
      have r3 : Rd (T.comp scope cl C D s₂').C.X h' v items[i] :=
        ((W.rd i v _ hP hd).vol hvol).mono fun b o _ r e => g3.heap b o (fun z => by subst z; exact hirr o e r) e
      refine wpAny_assign_Name (st_name (T := T.comp scope cl C D s₂') O' F3 (d := .py items[i]) r3 (fun s4 F4 K4 => ?_) (.inl (lookup_relabel_local hx)))
      have k4 : ∀ b o, b ≠ C → h'.get? b = some o → s4.heap.get? b = some o := fun b o z e => K4.heap b o (fun q => z q.1) e
      have step : ∀ {s5 : Shared}, FB (T.comp scope cl C D s₂').C (T.comp scope cl C D s₂').env ((x, .py items[i]) :: ρc) s5 → Ke C s4 s5 →
          (St (i + 1) s5.heap ∧ (∃ m, s5.heap.Ns C m) ∧ s5.heap.IsList D (List.toArray vs) ∧ RdAll (T.comp scope cl C D s₂').C.X s5.heap vs (((List.range i).filter p).map f) ∧ Gb I s₂ s5) := by
        intro s5 F5 K5
        have k5 : ∀ b o, b ≠ C → h'.get? b = some o → s5.heap.get? b = some o := fun b o z e => K5.heap b o z (k4 b o z e)
        refine ⟨W.walks.frame _ _ _ hS' fun b hb o e => k5 b o (hfp b hb).1 e, ?_, ?_, ?_, ?_⟩
        · obtain ⟨m5, h5, _⟩ := F5.fr; exact ⟨m5, h5⟩
        · obtain ⟨o, ho, r⟩ := hL3; exact ⟨o, k5 _ _ hDC ho, r⟩
        · exact (hR.mono hkx).mono (.of fun b o z e => k5 b o (fun q => z (.inr (.inl q))) e)
        · refine ⟨fun b o z e => k5 b o (fun q => by rw [q, hC0] at e; cases e) (g3.heap b o z e), ?_, ?_, fun j y e => K5.gens j y (K4.gens j y (g3.gens j y e)), fun _ => F5.bare⟩
          · have := F5.os; subst hs₂'; exact this
          · have := F5.drawn; subst hs₂'; exact this
      have tail : ∀ {s5 : Shared} {E' : Value → Shared → Prop}, FB (T.comp scope cl C D s₂').C (T.comp scope cl C D s₂').env ((x, .py items[i]) :: ρc) s5 → Ke C s4 s5 →
          (if p i = true then wpAny (model T.prog T.w) T.A (eval elt (compEnvC scope cl C T.env)) (fun x s₄ =>
            wpAny (model T.prog T.w) T.A (call (.builtin "list.append") [.ref D, x]) (fun _ s₅ => ∃ k, k < items.length + 1 - i ∧ ∃ j m vs, k = items.length + 1 - j ∧ j ≤ items.length ∧ St j s₅.heap ∧ s₅.heap.Ns C m ∧ s₅.heap.IsList D (List.toArray vs) ∧
              RdAll (T.comp scope cl C D s₂').C.X s₅.heap vs (((List.range j).filter p).map f) ∧ Gb I s₂ s₅) E' s₄) E' s5
          else ∃ k, k < items.length + 1 - i ∧ ∃ j m vs, k = items.length + 1 - j ∧ j ≤ items.length ∧ St j s5.heap ∧ s5.heap.Ns C m ∧ s5.heap.IsList D (List.toArray vs) ∧
              RdAll (T.comp scope cl C D s₂').C.X s5.heap vs (((List.range j).filter p).map f) ∧ Gb I s₂ s5) := by
        intro s5 E' F5 K5
        split
        · rename_i hp
          refine he C D s₂' i _ hd hp O' s5 _ E' F5 fun y s6 F6 K6 R6 => ?_
          obtain ⟨S6, ⟨m6, N6⟩, L6, A6, G6⟩ := step F6 (K5.trans K6)
          have hlen : vs.length ≤ items.length := by
            rw [A6.1, List.length_map]
            exact Nat.le_trans (List.length_filter_le _ _) (by rw [List.length_range]; exact hi)
          refine wpAny_list_append (hsz := by rw [List.size_toArray]; omega) L6 fun h7 L7 hs7 => ?_
          have k7 : Kx (T.comp scope cl C D s₂').C.X s6.heap h7 := .of fun b o z e => hs7.extBut b o (fun q => z (.inr (.inr q))) e
          refine ⟨items.length + 1 - (i + 1), by omega, i + 1, m6, vs ++ [y], rfl, hlt, ?_, N6.sameBut hs7 (Ne.symm hDC), by simpa using L7, ?_, ?_⟩
          · exact W.walks.frame _ _ _ S6 fun b hb o e => hs7.extBut b o (hfp b hb).2 e
          · rw [filter_range_succ, if_pos hp]
            exact (A6.mono k7).append (.cons (Rd.mono k7 R6) .nil)
          · exact ⟨fun b o z e => hs7.extBut b o (fun q => by rw [q, hD0] at e; cases e) (G6.heap b o z e), G6.os, G6.drawn, G6.gens, G6.bare⟩
        · rename_i hp
          obtain ⟨S6, ⟨m6, N6⟩, L6, A6, G6⟩ := step F5 K5
          refine ⟨items.length + 1 - (i + 1), by omega, i + 1, m6, vs, rfl, hlt, S6, N6, L6, ?_, G6⟩
          rw [filter_range_succ, if_neg hp, List.append_nil]
          exact A6
      have htst := ht C D s₂' i _ hd
      match ifs, htst with
      | [], htst =>
        have hp : p i = true := htst
        refine wpAny_tests_nil ?_
        have := tail (E' := notedBy (model T.prog T.w) T.A (compEnvC scope cl C T.env) fun e s' => RR (.ref D) C (.error e) s') F4 (.refl _ _)
        rw [if_pos hp] at this
        rw [if_pos rfl]
        exact this
      | [c], htst =>
        refine wpAny_tests_one (htst O' s4 _ _ F4 fun s5 F5 K5 => ?_)
        exact tail F5 K5
    · have hi' : i = items.length := by omega
      subst hi'
      refine W.walks.done s _ _ hS fun h' tk hk => ?_
      have hk' : ∀ b o, b ≠ I → s.heap.get? b = some o → h'.get? b = some o := fun b o z e => hk b o (by simpa using z) e
      have hkx : Kx (T.comp scope cl C D s₂').C.X s.heap h' := fun b o _ r e => hk' b o (fun z => by subst z; exact W.irr _ _ o hS e r) e
      refine hRR D C _ m hD0 hC0 hDC ?_ ?_ hXD ⟨vs, ?_, hR.mono hkx⟩
      · obtain ⟨o, es, ep, ho, r⟩ := hn; exact ⟨o, es, ep, hk' _ _ (Ne.symm hIC) ho, r⟩
      · exact ⟨fun b o z e => hk' b o z (g.heap b o z e), g.os, g.drawn, g.gens, g.bare⟩
      · obtain ⟨o, ho, r⟩ := hL; exact ⟨o, hk' _ _ (Ne.symm hID) ho, r⟩
  exact codeAny_compStart_list (loop _ rfl) (W.walks.self 0 _ _ _ hst₁ (loop _ rfl))
end
end Mine

end
section
set_option Elab.async false
set_option maxRecDepth 100000
set_option autoImplicit false
set_option linter.unusedVariables false
set_option linter.unusedSimpArgs false
namespace Mine
open PySem PySem.W PyProof.Rows PySem.Calls PySem.SeqAt

section
variable {T : Tx} {ρ : Rho}

structure CompOk (T : Tx) (ρ : Rho) (ρc : Rho) (iter : Expr) (x : Str) (scope : Scope) (cl : List (Str × Addr)) : Prop where
  clos : closureFor scope T.env = pure cl
  kind : scope.kind = .function
  names : ∀ z ∈ scope.names, z.2 = .local → scope.names.lookup z.1 = some .local
  cell : ∀ y ∈ scope.names, y.2 ≠ .cell
  hx : scope.names.lookup x = some .local
  vis : Vis T scope cl ρ ρc
  fs : ∀ x, foldedSetIterable iter T.env x = pure x

/-- more volatile addresses -/
def Cx.more (C : Cx) (Y : Vol) : Cx := ⟨fun a => C.X a ∨ Y a, C.W, C.s₀⟩
/-- more volatile addresses that the function's own statements may write -/
def Cx.own (C : Cx) (Y : Vol) : Cx := ⟨fun a => C.X a ∨ Y a, fun a => C.W a ∨ Y a, C.s₀⟩
theorem EOk.more {K : Frag} {mg mb : Str → Option Value} {C : Cx} {env : Env} (e : EOk K mg mb C env) (Y : Vol) : EOk K mg mb (C.more Y) env :=
  ⟨e.md, e.kind, e.glob, e.bui, e.wl, fun a h => .inl (e.wx a h), e.wnew, e.cne, e.capart, fun x c h => .inl (e.cx x c h)⟩
theorem EOk.own {K : Frag} {mg mb : Str → Option Value} {C : Cx} {env : Env} (e : EOk K mg mb C env) {Y : Vol} (hY : ∀ a, Y a → C.s₀.heap.get? a = none) : EOk K mg mb (C.own Y) env :=
  ⟨e.md, e.kind, e.glob, e.bui, .inl e.wl, fun a h => h.elim (fun q => .inl (e.wx a q)) .inr, fun a h => h.elim (e.wnew a) (hY a), e.cne, e.capart, fun x c h => .inl (e.cx x c h)⟩

theorem FB.fresh {C C' : Cx} {env : Env} {s s' : Shared} {I : Addr} {K : Frag} {mg mb : Str → Option Value} (e : EOk K mg mb C env) (F : FB C env ρ s) (Y : Vol) (h0' : C'.s₀ = C.s₀) (hXX : ∀ a, C'.X a ↔ C.X a ∨ Y a) (hY : ∀ a, Y a → s.heap.get? a = none) (hY' : ∀ a, Y a → ∃ o, s'.heap.get? a = some o)
    (hX : ¬ C.X I) (h0 : C.s₀.heap.get? I = none) (hir : ∀ o, s.heap.get? I = some o → ¬ Rel o) (g : Gb I s s') : FB C' env ρ s' := by
  have F' := F.but e hX h0 hir g
  refine ⟨⟨by rw [h0']; exact F'.old, by rw [h0']; exact F'.os, by rw [h0']; exact F'.drawn, by rw [h0']; exact F'.gens, F'.bare, fun a ha => ?_⟩, F'.cl, ?_⟩
  · rcases (hXX a).mp ha with q | q
    · exact F'.xin a q
    · exact hY' a q
  · have hL : env.locals ≠ I := fun q => hX (q ▸ e.wx _ e.wl)
    obtain ⟨m, ⟨oL, es, ep, hoL, hr⟩, hv⟩ := F.fr
    refine ⟨m, ⟨oL, es, ep, g.heap _ _ hL hoL, hr⟩, fun x d hx => ?_⟩
    obtain ⟨v, h1, h2⟩ := hv x d hx
    refine ⟨v, ?_, (h2.vol (X' := C'.X) fun a o ho ha => ?_).mono fun b o n r q => g.heap b o (fun z => by subst z; exact hir o q r) q⟩
    · rcases h1 with h1 | ⟨h1, c, hc, ⟨o, ho, hd⟩, hxc, hne⟩
      · exact .inl h1
      · exact .inr ⟨h1, c, hc, ⟨o, g.heap c o (fun z => hX (z ▸ hxc)) ho, hd⟩, (hXX c).mpr (.inl hxc), hne⟩
    · rcases (hXX a).mp ha with q | q
      · exact q
      · have := hY a q; rw [ho] at this; cases this
/-- back to fewer volatile addresses -/
theorem FB.less {C C' : Cx} {env : Env} {s : Shared} {K : Frag} {mg mb : Str → Option Value} (e : EOk K mg mb C env) (F : FB C' env ρ s) (h0' : C'.s₀ = C.s₀) (hXX : ∀ a, C.X a → C'.X a) : FB C env ρ s := by
  refine ⟨⟨by rw [← h0']; exact F.old, by rw [← h0']; exact F.os, by rw [← h0']; exact F.drawn, by rw [← h0']; exact F.gens, F.bare, fun a ha => F.xin a (hXX a ha)⟩, F.cl, ?_⟩
  obtain ⟨m, hm, hv⟩ := F.fr
  refine ⟨m, hm, fun x d hx => ?_⟩
  obtain ⟨v, h1, h2⟩ := hv x d hx
  refine ⟨v, ?_, h2.vol fun a _ _ ha => hXX a ha⟩
  rcases h1 with h1 | ⟨h1, c, hc, h3, hxc, hne⟩
  · exact .inl h1
  · exact .inr ⟨h1, c, hc, h3, e.cx _ _ hc, hne⟩
/-- a change of one volatile object that is neither the frame nor a cell -/
theorem FB.change {C : Cx} {env : Env} {s : Shared} {D : Addr} {h' : Heap} {tk : Nat} (F : FB C env ρ s) (hX : C.X D) (h0 : C.s₀.heap.get? D = none) (hL : env.locals ≠ D) (hc : ∀ x c, env.cells.lookup x = some c → c ≠ D) (hs : Heap.SameBut D s.heap h') (hD : ∃ o, h'.get? D = some o) :
    FB C env ρ { s with heap := h', toks := tk } := by
  refine ⟨⟨fun b o q => hs.extBut b o (fun z => ?_) (F.old b o q), F.os, F.drawn, F.gens, F.bare, fun a ha => ?_⟩, fun x c hc' => ?_, ?_⟩
  · subst z; rw [h0] at q; cases q
  · by_cases z : a = D
    · subst z; exact hD
    · obtain ⟨o, ho⟩ := F.xin a ha; exact ⟨o, hs.extBut a o z ho⟩
  · obtain ⟨v, o, ho, hd⟩ := F.cl x c hc'
    exact ⟨v, o, hs.extBut c o (hc x c hc') ho, hd⟩
  · obtain ⟨m, hm, hv⟩ := F.fr
    refine ⟨m, hm.sameBut hs hL, fun x d hx => ?_⟩
    obtain ⟨v, h1, h2⟩ := hv x d hx
    refine ⟨v, ?_, h2.mono (.of fun b o n q => hs.extBut b o (fun z => n (z ▸ hX)) q)⟩
    rcases h1 with h1 | ⟨h1, c, hc', ⟨o, ho, hd⟩, hxc, hne⟩
    · exact .inl h1
    · exact .inr ⟨h1, c, hc', ⟨o, hs.extBut c o (hc x c hc') ho, hd⟩, hxc, hne⟩

/-- a volatile object that is let go -/
theorem FB.drop {C C' : Cx} {env : Env} {s : Shared} {D : Addr} {h' : Heap} {tk : Nat} {K : Frag} {mg mb : Str → Option Value} (e : EOk K mg mb C env) (F : FB C' env ρ s) (h0' : C'.s₀ = C.s₀) (hXX : ∀ a, C.X a → C'.X a) (hX : C'.X D) (hX' : ¬ C.X D) (h0 : C.s₀.heap.get? D = none) (hs : Heap.SameBut D s.heap h') :
    FB C env ρ { s with heap := h', toks := tk } := by
  have hL : env.locals ≠ D := fun q => hX' (q ▸ e.wx _ e.wl)
  have hc : ∀ x c, env.cells.lookup x = some c → c ≠ D := fun x c h q => hX' (q ▸ e.cx x c h)
  refine ⟨⟨fun b o q => hs.extBut b o (fun z => ?_) (F.old b o (h0' ▸ q)), h0' ▸ F.os, h0' ▸ F.drawn, h0' ▸ F.gens, F.bare, fun a ha => ?_⟩, fun x c hc' => ?_, ?_⟩
  · subst z; rw [h0] at q; cases q
  · obtain ⟨o, ho⟩ := F.xin a (hXX a ha); exact ⟨o, hs.extBut a o (fun z => hX' (z ▸ ha)) ho⟩
  · obtain ⟨v, o, ho, hd⟩ := F.cl x c hc'
    exact ⟨v, o, hs.extBut c o (hc x c hc') ho, hd⟩
  · obtain ⟨m, hm, hv⟩ := F.fr
    refine ⟨m, hm.sameBut hs hL, fun x d hx => ?_⟩
    obtain ⟨v, h1, h2⟩ := hv x d hx
    refine ⟨v, ?_, (h2.mono (.of fun b o n q => hs.extBut b o (fun z => n (z ▸ hX)) q)).vol fun a _ _ ha => hXX a ha⟩
    rcases h1 with h1 | ⟨h1, c, hc', ⟨o, ho, hd⟩, hxc, hne⟩
    · exact .inl h1
    · exact .inr ⟨h1, c, hc', ⟨o, hs.extBut c o (hc x c hc') ho, hd⟩, e.cx _ _ hc', hne⟩

/-- the list comprehension [elt for x in iter if ..] -/
theorem ev_comp {ρc : Rho} {elt iter : Expr} {x : Str} {px pos : Pos} {ifs : List Expr} {scope : Scope} {cl : List (Str × Addr)} {items : List PyData} (p : Nat → Bool) (f : Nat → PyData)
    (H : CompOk T ρ ρc iter x scope cl) (hz : items.length ≤ sizeLine) (hI : IT T ρ iter items)
    (ht : ∀ C D s₂ (i : Nat) d, items[i]? = some d → Tests (T.comp scope cl C D s₂) ((x, .py d) :: ρc) ifs (p i))
    (he : ∀ C D s₂ (i : Nat) d, items[i]? = some d → p i = true → EV (T.comp scope cl C D s₂) ((x, .py d) :: ρc) elt (.py (f i))) :
    EV T ρ (.ListComp elt [⟨.Name x px, iter, ifs, 0⟩] scope pos) (.py (.list (((List.range items.length).filter p).map f))) := by
  intro O s Q E F k
  rw [eval_ListComp]
  refine wpAny_comprehension_free (use := none) rfl H.fs H.clos H.kind H.names (hI O s _ E F fun I s₂ fp P St F₂ K₂ W hnew => ?_)
  have hI0 : T.C.s₀.heap.get? I = none := by
    cases q : T.C.s₀.heap.get? I with
    | none => rfl
    | some o => have := F.old I o q; rw [hnew] at this; cases this
  refine comp_core (RR := fun acc C => compPost (model T.prog T.w) T.A E none Q acc C) p f H.clos H.kind H.cell H.hx H.vis hz ht he O F₂ W hI0 ?_
  rintro D C s' m hD hC hDC hn g hXD ⟨vs, hl, hr⟩
  refine ⟨m, hn, fun h' hs' => ?_⟩
  have hXI : ¬ T.C.X I := W.off I W.inI
  have g' : Gb I s₂ { s' with heap := h' } := ⟨fun b o z e => hs'.extBut b o (fun q => by rw [q, hC] at e; cases e) (g.heap b o z e), g.os, g.drawn, g.gens, g.bare⟩
  have hkx : Kx (fun a => T.C.X a ∨ a = C ∨ a = D) s'.heap h' := .of fun b o z e => hs'.extBut b o (fun q => z (.inr (.inl q))) e
  refine k _ _ (F₂.but O.toEOk hXI hI0 (fun o ho => W.irr 0 _ o W.start ho) g') ⟨fun b o z e => ?_, fun i y e => g.gens i y (K₂.gens i y e), fun m hm => ?_⟩ ?_
  · exact g'.heap b o (fun q => by rw [q, hnew] at e; cases e) (K₂.heap b o z e)
  · obtain ⟨oL, es, ep, hoL, hr⟩ := K₂.ns m hm
    exact ⟨oL, es, ep, g'.heap _ _ (fun q => hXI (q ▸ O.wx _ O.wl)) hoL, hr⟩
  · exact Rd.mkList hXD (hl.extBut hs'.extBut hDC) ((hr.mono hkx).vol fun a o _ ha => .inl ha)

/-- y = [elt for x in iter if ..], where the store comes ahead of the letting go -/
theorem ex_assign_comp {ρc : Rho} {elt iter : Expr} {x y : Str} {px py pos spos : Pos} {ifs : List Expr} {scope : Scope} {cl : List (Str × Addr)} {items : List PyData} (p : Nat → Bool) (f : Nat → PyData) {rest : List Stmt} {Q : Flow → Shared → Prop} {E : Value → Shared → Prop} {s : Shared}
    (hsw : swapsWith (.ListComp elt [⟨.Name x px, iter, ifs, 0⟩] scope pos) (some (.Name y py)) spos.line T.env = pure true)
    (H : CompOk T ρ ρc iter x scope cl) (hz : items.length ≤ sizeLine) (hI : IT T ρ iter items)
    (ht : ∀ C D s₂ (i : Nat) d, items[i]? = some d → Tests (T.comp scope cl C D s₂) ((x, .py d) :: ρc) ifs (p i))
    (he : ∀ C D s₂ (i : Nat) d, items[i]? = some d → p i = true → EV (T.comp scope cl C D s₂) ((x, .py d) :: ρc) elt (.py (f i)))
    (O : T.Ok) (F : FB T.C T.env ρ s) (hy : STO T y)
    (k : ∀ s', FB T.C T.env ((y, .py (.list (((List.range items.length).filter p).map f))) :: ρ) s' → Kw (SW T) s s' → wpAny (model T.prog T.w) T.A (execs rest T.env) Q E s') :
    wpAny (model T.prog T.w) T.A (execs (.Assign [.Name y py] (.ListComp elt [⟨.Name x px, iter, ifs, 0⟩] scope pos) spos :: rest) T.env) Q E s := by
  refine wpAny_execs_cons ?_
  rw [exec_Assign_Name_used _ _ _ _ hsw]
  refine wpAny_bind (wpAny_standAt (wpAny_bind ?_))
  show wpAny _ T.A (do let _ ← comprehension (.ListComp elt [⟨.Name x px, iter, ifs, 0⟩] scope pos) scope T.env _ (newList []) false (eval iter T.env) (some (assign (.Name y py) T.env))) _ _ s
  refine wpAny_bind (wpAny_mono (wpAny_comprehension_free (use := some (assign (.Name y py) T.env)) (Q := fun _ s' => wpAny (model T.prog T.w) T.A (execs rest T.env) Q E s') rfl H.fs H.clos H.kind H.names
    (hI O s _ E F fun I s₂ fp P St F₂ K₂ W hnew => ?_)) (fun _ s' hq => wpAny_pure (wpAny_pure hq)) fun _ _ e => e)
  have hI0 : T.C.s₀.heap.get? I = none := by
    cases q : T.C.s₀.heap.get? I with
    | none => rfl
    | some o => have := F.old I o q; rw [hnew] at this; cases this
  refine comp_core (RR := fun acc C => compPost (model T.prog T.w) T.A E (some (assign (.Name y py) T.env)) (fun _ s' => wpAny (model T.prog T.w) T.A (execs rest T.env) Q E s') acc C) p f H.clos H.kind H.cell H.hx H.vis hz ht he O F₂ W hI0 ?_
  rintro D C s' m hD hC hDC hn g hXD ⟨vs, hl, hr⟩
  have hXI : ¬ T.C.X I := W.off I W.inI
  have hXC : ¬ T.C.X C := none_off F₂ hC
  have hC0 : T.C.s₀.heap.get? C = none := by
    cases q : T.C.s₀.heap.get? C with
    | none => rfl
    | some o => have := F₂.old C o q; rw [hC] at this; cases this
  have hXL : T.env.locals ≠ C := fun z => hXC (z ▸ O.wx _ O.wl)
  have hcC : ∀ x c, T.env.cells.lookup x = some c → c ≠ C := fun x c hc z => hXC (z ▸ O.cx x c hc)
  have F' : FB (T.C.more (· = C)) T.env ρ s' := F₂.fresh O.toEOk (· = C) rfl (fun a => Iff.rfl) (fun a ha => (show a = C from ha) ▸ hC) (fun a ha => by obtain ⟨o, _, _, ho, _⟩ := hn; exact ⟨o, (show a = C from ha) ▸ ho⟩) hXI hI0 (fun o ho => W.irr 0 _ o W.start ho) g
  have O' : ({ T with C := T.C.more (· = C) } : Tx).Ok := { O.toEOk.more (· = C), O.toAOk with }
  show wpAny _ T.A (assign (.Name y py) T.env (.ref D)) _ _ _
  refine wpAny_assign_Name (st_name (T := { T with C := T.C.more (· = C) }) O' F' (d := .py (.list (((List.range items.length).filter p).map f)))
    (Rd.mkList (fun z => z.elim hXD hDC) hl (hr.vol fun a o _ ha => ha.elim .inl fun q => .inr (.inl q))) (fun s'' F'' K'' => ?_) hy)
  have hCw : ¬ SW T C := fun z => hXC (O.wx _ z.1)
  obtain ⟨oC, es, ep, hoC, hrest⟩ := hn
  have hC'' : s''.heap.get? C = some oC := K''.heap _ _ hCw hoC
  refine ⟨m, ⟨oC, es, ep, hC'', hrest⟩, fun h' hs' => ?_⟩
  refine k _ (F''.drop (D := C) (tk := s''.toks) O.toEOk rfl (fun a ha => .inl ha) (.inr rfl) hXC hC0 hs') ⟨fun b o z e => ?_, fun i y e => K''.gens i y (g.gens i y (K₂.gens i y e))⟩
  have hbC : b ≠ C := fun q => by
    subst q
    have := K₂.heap b o (fun q => hXL q.symm) e
    rw [hC] at this; cases this
  exact hs'.extBut b o hbC (K''.heap b o z (g.heap b o (fun q => by rw [q, hnew] at e; cases e) (K₂.heap b o (fun q => z (q ▸ ⟨O.wl, .inl rfl⟩)) e)))
end
end Mine

end
section
set_option Elab.async false
set_option maxRecDepth 100000
set_option autoImplicit false
set_option linter.unusedVariables false
set_option linter.unusedSimpArgs false
namespace Mine
open PySem PySem.W PyProof.Rows PySem.Calls PySem.SeqAt

section
variable {T : Tx} {ρ : Rho}

/-! range -/
def rangeD (a : Int) (n : Nat) : List PyData := (List.range n).map fun (i : Nat) => .int (a + (i : Int))
theorem rangeD_get {a : Int} {n i : Nat} {d : PyData} (h : (rangeD a n)[i]? = some d) : d = .int (a + (i : Int)) ∧ i < n := by
  unfold rangeD at h
  rw [List.getElem?_map] at h
  by_cases q : i < n
  · rw [List.getElem?_range q] at h; cases h; exact ⟨rfl, q⟩
  · rw [List.getElem?_eq_none (by simp; omega)] at h; cases h
theorem rangeD_length {a : Int} {n : Nat} : (rangeD a n).length = n := by simp [rangeD]

theorem it_of_range {s s1 : Shared} {a b : Int} {t u v : Tok} {r : Addr} {Q : Value → Shared → Prop} {E : Value → Shared → Prop} (O : T.Ok) (F1 : FB T.C T.env ρ s1) (K1 : Ke T.env.locals s s1) (hr : IsRange s1.heap r a b 1 t u v)
    (ha : -(2 ^ 62) ≤ a) (ha' : a < 2 ^ 62) (hb : -(2 ^ 62) ≤ b) (hb' : b < 2 ^ 62)
    (k : ∀ I s' fp P St, FB T.C T.env ρ s' → Ke T.env.locals s s' → Walk T (rangeD a (b - a).toNat) I s' fp P St → s.heap.get? I = none → Q (.ref I) s') : wpAny (model T.prog T.w) T.A (pyIter (.ref r)) Q E s1 := by
  refine wpAny_pyIter_range hr (small_one ha ha' hb hb') ?_
  have st : ∀ ob : Obj, s1.heap.StaysIn (s1.heap.push ob) := fun ob b o e => Heap.get?_push_of_some _ e
  have e : Builtin.Range.rangeSize a b 1 = (((b - a).toNat : Nat) : Int) := by rw [rangeSize_one]; split <;> omega
  rw [e]
  have W := Walks.range (prog := T.prog) (w := T.w) (A := T.A) O.handled s1.heap.objs.size a 1 (b - a).toNat
  obtain ⟨m, hm, _⟩ := F1.fr
  refine k _ _ [s1.heap.objs.size] _ _ (F1.step O.toEOk (.of_stays (st _)) (tk := s1.toks)) (K1.trans (.step (.of_stays (st _)))) ⟨(by rw [rangeD_length]; exact W), ?_, ?_, ?_, ?_, by simp, ?_⟩ (K1.none hm (size_none _))
  · show Heap.get? _ _ = _
    rw [Heap.get?_push_size _ rfl]
    simp [rawInt]
  · intro b hb; rw [List.mem_singleton.mp hb]; exact new_off F1
  · intro i h o hS ho
    rw [show h.get? s1.heap.objs.size = some _ from hS] at ho; cases ho
    exact not_rel rfl (by decide) (by decide) (by decide)
  · rintro i v d ⟨t, rfl⟩ hd
    obtain ⟨rfl, _⟩ := rangeD_get hd
    rw [Int.mul_one]; exact Rd.int _ _
  · intro b hb; rw [List.mem_singleton.mp hb]; exact ⟨_, Heap.get?_push_size _ rfl⟩

theorem it_range1 {fn e : Expr} {pos : Pos} {b : Int} (hf : EV T ρ fn (.val (.type "range"))) (ha : EVs T ρ [e] [.py (.int b)]) (hb : -(2 ^ 62) ≤ b) (hb' : b < 2 ^ 62)
    (he : eval (.Call fn [e] [] pos) T.env = (do callWith pos (← eval fn T.env) [] (backTo pos (starEach [e] T.env)) (backToKw pos (keywordEach [] T.env))) := by rfl) (hp : (starEach [e] T.env).any (·.1) = false := by rfl) : IT T ρ (.Call fn [e] [] pos) (rangeD 0 b.toNat) := by
  intro O s Q E F k
  rw [he]
  refine wpAny_bind (hf O s _ E F fun v s1 F1 K1 R1 => ?_)
  obtain rfl : v = .type "range" := R1
  refine callWith_plain (plain_any hp) (fun a h => by cases h) ?_
  refine evalArgs_of hp (ha O pos s1 _ E F1 fun vs s2 F2 K2 R2 => ?_)
  obtain ⟨u, rfl, r⟩ := R2.one
  obtain ⟨t, rfl⟩ := Rd.int_inv r
  refine call_range_1 ?_
  have st : ∀ ob : Obj, s2.heap.StaysIn (s2.heap.push ob) := fun ob b o e => Heap.get?_push_of_some _ e
  refine it_of_range O (F2.step O.toEOk (.of_stays (st _)) (tk := s2.toks + 1 + 1)) ((K1.trans K2).trans (.step (.of_stays (st _)))) (IsRange.new _ _ _ _ _ _ _) (by decide) (by decide) hb hb' ?_
  rw [Int.sub_zero]; exact k
theorem it_range2 {fn e e' : Expr} {pos : Pos} {a b : Int} (hf : EV T ρ fn (.val (.type "range"))) (hs : EVs T ρ [e, e'] [.py (.int a), .py (.int b)]) (ha : -(2 ^ 62) ≤ a) (ha' : a < 2 ^ 62) (hb : -(2 ^ 62) ≤ b) (hb' : b < 2 ^ 62)
    (he : eval (.Call fn [e, e'] [] pos) T.env = (do callWith pos (← eval fn T.env) [] (backTo pos (starEach [e, e'] T.env)) (backToKw pos (keywordEach [] T.env))) := by rfl) (hp : (starEach [e, e'] T.env).any (·.1) = false := by rfl) : IT T ρ (.Call fn [e, e'] [] pos) (rangeD a (b - a).toNat) := by
  intro O s Q E F k
  rw [he]
  refine wpAny_bind (hf O s _ E F fun v s1 F1 K1 R1 => ?_)
  obtain rfl : v = .type "range" := R1
  refine callWith_plain (plain_any hp) (fun a h => by cases h) ?_
  refine evalArgs_of hp (hs O pos s1 _ E F1 fun vs s2 F2 K2 R2 => ?_)
  obtain ⟨u, u', rfl, r, r'⟩ := R2.two
  obtain ⟨t, rfl⟩ := Rd.int_inv r
  obtain ⟨t', rfl⟩ := Rd.int_inv r'
  refine call_range_2 ?_
  have st : ∀ ob : Obj, s2.heap.StaysIn (s2.heap.push ob) := fun ob b o e => Heap.get?_push_of_some _ e
  exact it_of_range O (F2.step O.toEOk (.of_stays (st _)) (tk := s2.toks + 1)) ((K1.trans K2).trans (.step (.of_stays (st _)))) (IsRange.new _ _ _ _ _ _ _) ha ha' hb hb' k

/-! assignments to several names -/
theorem ex_assign3 {x y z : Str} {px py pz pos : Pos} {e : Expr} {rest : List Stmt} {d : Dt} {Q : Flow → Shared → Prop} {E : Value → Shared → Prop} {s : Shared} (O : T.Ok) (F : FB T.C T.env ρ s) (h : EV T ρ e d) (hx : STO T x) (hy : STO T y) (hz : STO T z)
    (k : ∀ s', FB T.C T.env ((z, d) :: (y, d) :: (x, d) :: ρ) s' → Kw (SW T) s s' → wpAny (model T.prog T.w) T.A (execs rest T.env) Q E s')
    (hw : swappedStores [.Name x px, .Name y py, .Name z pz] e T.env = pure none := by rfl) : wpAny (model T.prog T.w) T.A (execs (.Assign [.Name x px, .Name y py, .Name z pz] e pos :: rest) T.env) Q E s := by
  refine wpAny_execs_cons (wpAny_Assign_three (h O s _ E F fun v s1 F1 K1 R1 => ?_) rfl hw)
  have sw : ∀ {b : Addr}, T.C.X b → True := fun _ => trivial
  have go : ∀ {s s' : Shared}, Kw (SW T) s s' → RdT T.C.X s.heap v d → RdT T.C.X s'.heap v d := fun {s s'} kw r => r.mono (.of fun b o n e => kw.heap b o (fun q => n (O.wx _ q.1)) e)
  refine wpAny_assign_Name (st_name O F1 R1 (fun s2 F2 K2 => ?_) hx)
  refine wpAny_assign_Name (st_name O F2 (go K2 R1) (fun s3 F3 K3 => ?_) hy)
  refine wpAny_assign_Name (st_name O F3 (go K3 (go K2 R1)) (fun s4 F4 K4 => ?_) hz)
  exact k s4 F4 ((((Ke.sw O K1).trans K2).trans K3).trans K4)

theorem ex_unpack2 {x y : Str} {px py tpos pos : Pos} {kk : Nat} {e : Expr} {rest : List Stmt} {d1 d2 : PyData} {Q : Flow → Shared → Prop} {E : Value → Shared → Prop} {s : Shared} (O : T.Ok) (F : FB T.C T.env ρ s) (h : EV T ρ e (.py (.tuple [d1, d2]))) (hx : STO T x) (hy : STO T y)
    (k : ∀ s', FB T.C T.env ((y, .py d2) :: (x, .py d1) :: ρ) s' → Kw (SW T) s s' → wpAny (model T.prog T.w) T.A (execs rest T.env) Q E s')
    (hs : swapsWithSole [.Tuple [.Name x px, .Name y py] kk tpos] e pos.line T.env = pure false := by rfl)
    (hw : swappedStores [.Tuple [.Name x px, .Name y py] kk tpos] e T.env = pure none := by rfl) : wpAny (model T.prog T.w) T.A (execs (.Assign [.Tuple [.Name x px, .Name y py] kk tpos] e pos :: rest) T.env) Q E s := by
  refine wpAny_execs_cons (Assign_Tuple (h O s _ E F fun v s1 F1 K1 R1 => ?_) hs hw)
  obtain ⟨a, us, rfl, ha, ht, ra⟩ := Rd.tuple_inv R1
  obtain ⟨v1, us1, rfl, r1, ra1⟩ := ra.inv_cons
  obtain ⟨v2, us2, rfl, r2, ra2⟩ := ra1.inv_cons
  obtain rfl := ra2.inv_nil
  have go : ∀ {s s' : Shared} {v d}, Kw (SW T) s s' → RdT T.C.X s.heap v d → RdT T.C.X s'.heap v d := fun {s s' v d} kw r => r.mono (.of fun b o n e => kw.heap b o (fun q => n (O.wx _ q.1)) e)
  refine assign_Tuple_tuple O.handled ht rfl rfl fun h' he => ?_
  have st : s1.heap.StaysIn h' := fun b o e => he b o (Nat.ne_of_lt (Heap.lt_size e)) e
  have F2 := F1.step O.toEOk (.of_stays st) (tk := s1.toks)
  refine assignInOrder_cons (wpAny_assign_Name (st_name O F2 (d := .py d1) (r1.mono (.of_stays st)) (fun s2 F2 K2 => ?_) hx))
  refine assignInOrder_cons (wpAny_assign_Name (st_name O F2 (d := .py d2) (go K2 (d := .py d2) (r2.mono (.of_stays st))) (fun s3 F3 K3 => assignInOrder_nil ?_) hy))
  exact k s3 F3 ((((Ke.sw O K1).trans (Ke.sw O (.step (tk := s1.toks) (.of_stays st)))).trans K2).trans K3)

/-- x, y = e, stored from behind -/
theorem ex_unpack2s {x y : Str} {px py tpos pos : Pos} {kk : Nat} {e : Expr} {rest : List Stmt} {d1 d2 : PyData} {Q : Flow → Shared → Prop} {E : Value → Shared → Prop} {s : Shared} (O : T.Ok) (F : FB T.C T.env ρ s) (h : EV T ρ e (.py (.tuple [d1, d2]))) (hx : STO T x) (hy : STO T y)
    (k : ∀ s', FB T.C T.env ((x, .py d1) :: (y, .py d2) :: ρ) s' → Kw (SW T) s s' → wpAny (model T.prog T.w) T.A (execs rest T.env) Q E s')
    (hs : swapsWithSole [.Tuple [.Name x px, .Name y py] kk tpos] e pos.line T.env = pure false := by rfl)
    (hw : swappedStores [.Tuple [.Name x px, .Name y py] kk tpos] e T.env = pure (some [x, y]) := by rfl) : wpAny (model T.prog T.w) T.A (execs (.Assign [.Tuple [.Name x px, .Name y py] kk tpos] e pos :: rest) T.env) Q E s := by
  refine wpAny_execs_cons (Assign_Tuple_swapped (names := [x, y]) (h O s _ E F fun v s1 F1 K1 R1 => ?_) hs hw)
  obtain ⟨a, us, rfl, ha, ht, ra⟩ := Rd.tuple_inv R1
  obtain ⟨v1, us1, rfl, r1, ra1⟩ := ra.inv_cons
  obtain ⟨v2, us2, rfl, r2, ra2⟩ := ra1.inv_cons
  obtain rfl := ra2.inv_nil
  have go : ∀ {s s' : Shared} {v d}, Kw (SW T) s s' → RdT T.C.X s.heap v d → RdT T.C.X s'.heap v d := fun {s s' v d} kw r => r.mono (.of fun b o n e => kw.heap b o (fun q => n (O.wx _ q.1)) e)
  refine unpackItems_tuple (items := #[v1, v2]) O.handled ht fun h' he => ?_
  have st : s1.heap.StaysIn h' := fun b o e => he b o (Nat.ne_of_lt (Heap.lt_size e)) e
  have F2 := F1.step O.toEOk (.of_stays st) (tk := s1.toks)
  refine assignInOrder_cons (bindName_ (st_name O F2 (d := .py d2) (r2.mono (.of_stays st)) (fun s2 F2 K2 => ?_) hy))
  refine assignInOrder_cons (bindName_ (st_name O F2 (d := .py d1) (go K2 (d := .py d1) (r1.mono (.of_stays st))) (fun s3 F3 K3 => assignInOrder_nil ?_) hx))
  exact k s3 F3 ((((Ke.sw O K1).trans (Ke.sw O (.step (tk := s1.toks) (.of_stays st)))).trans K2).trans K3)
end
end Mine

end
section
set_option Elab.async false
set_option maxRecDepth 100000
set_option autoImplicit false
set_option linter.unusedVariables false
set_option linter.unusedSimpArgs false
namespace Mine
open PySem PySem.W PyProof.Rows PySem.Calls PySem.SeqAt

/-- what is looked up of the class once -/
structure ClsOk (K : Frag) : Prop where
  makes : makesIn K 83 = true
  init : findIn K (.ref 83) "__init__" = some (some (.ref 38))
  initF : typeIn K (.ref 38) = some (.type "function")
  setat : findIn K (.ref 83) "__setattr__" = some (some (.builtin "object.__setattr__"))
  getat : findIn K (.ref 83) "__getattribute__" = some (some (.builtin "object.__getattribute__"))
  getat2 : findIn K (.ref 83) "__getattr__" = some none
  over : plainOver K 83 = true
  hasD : hasDictIn K 83 = true
  raw : findIn K (.ref 83) "raw" = some none
  n : findIn K (.ref 83) "n" = some none
  nt : findIn K (.ref 83) "nt" = some none
  norm : findIn K (.ref 83) "norm" = some none
  simp : findIn K (.ref 83) "is_simple" = some none
  longest : findIn K (.ref 83) "longest_run_of_spaces" = some (some (.ref 45))
  longestF : isFn K (.ref 45) = true
  indent : findIn K (.ref 83) "indent_level" = some (some (.ref 52))
  indentF : isFn K (.ref 52) = true
  equal : findIn K (.ref 83) "equal" = some (some (.ref 59))
  equalF : isFn K (.ref 59) = true
  wit : findIn K (.ref 83) "not_equal_witness" = some (some (.ref 66))
  witF : isFn K (.ref 66) = true
  mc : typeIn K (.ref 83) = some (.type "type")
  reads : readsIn K 83 (.type "type") = true
  s : ∃ t, findCls K (.ref 83) (.type "type") "S" = some (.val (.str " " t))
  t : ∃ t, findCls K (.ref 83) (.type "type") "T" = some (.val (.str "\t" t))

theorem ClsOk.plain {K : Frag} (H : ClsOk K) (name : Str) : plainGet K 83 name = true := by
  unfold plainGet; rw [H.getat, H.getat2]; rfl
theorem ClsOk.taker {K : Frag} {name : Str} (h : findIn K (.ref 83) name = some none) : takerIn K 83 name = some none := by
  unfold takerIn; rw [h]; rfl

section
variable {T : Tx} {ρ : Rho}

theorem WsIs.inst {X : Vol} {h : Heap} {v : Value} {c : List Int} {b nt : Int} (r : WsIs X h v c b nt) : ∃ x ox es n vn t, v = .ref x ∧ InstAt h x ox 83 (some (dictOf es n)) ∧ getL (Str.ofString "norm") es = some (some vn) ∧ Rd X h vn (.tuple [.tuple (c.map .int), .int b]) ∧ getL (Str.ofString "nt") es = some (some (.int nt t)) ∧
    (∀ f ∈ [Str.ofString "indent_level", Str.ofString "equal", Str.ofString "not_equal_witness", Str.ofString "longest_run_of_spaces"], getL f es = some none) := by
  obtain ⟨x, dx, sl, es, n, vn, t, e1, e2, e3, e4, e5, e6, e7, e8, e9⟩ := r.ex
  exact ⟨x, _, es, n, vn, t, e1, ⟨e4, rfl, rfl, e5⟩, e6, e7, e8, e9⟩

theorem attr_own (H : ClsOk T.K) {s : Shared} (X : T.K.In s.heap) {x : Addr} {ox : Obj} {es : List DictEntry} {n : Nat} {name : Str} {v : Value} {expr : Bool} {Q : Value → Shared → Prop} {E : Value → Shared → Prop} (I : InstAt s.heap x ox 83 (some (dictOf es n))) (hf : findIn T.K (.ref 83) name = some none)
    (hl : getL name es = some (some v)) (hv : handedIn v = true) (h : Q v { s with toks := s.toks + 1 }) : wpAny (model T.prog T.w) T.A (getAttr (.ref x) name expr) Q E s :=
  get_value X I H.getat (findObj_own H.hasD hf rfl hl) hv h

theorem ev_norm (H : ClsOk T.K) {x : Str} {px pos : Pos} {c : List Int} {b nt : Int} (h : EV T ρ (.Name x px) (.ws c b nt))
    (he : eval (.Attribute (.Name x px) "norm" pos) T.env = (do
      let o ← eval (.Name x px) T.env
      standAt pos.atName
      let r ← holding [o] (getAttr o "norm" true)
      letTemporaryGo (.Name x px) o r
      pure r) := by with_unfolding_all rfl) : EV T ρ (.Attribute (.Name x px) "norm" pos) (.py (.tuple [.tuple (c.map .int), .int b])) := fun O s Q E F k =>
  Attribute_Name_ (h O s _ E F fun v s1 F1 K1 R1 => by
    obtain ⟨x, ox, es, n, vn, t, rfl, I, e1, e2, e3, e4⟩ := WsIs.inst R1
    exact attr_own H (O.md.kin.keeps F1.old) I H.norm e1 (by cases e2; rfl) (k _ _ (F1.tok _) K1.tok e2)) he
theorem ev_nt (H : ClsOk T.K) {x : Str} {px pos : Pos} {c : List Int} {b nt : Int} (h : EV T ρ (.Name x px) (.ws c b nt))
    (he : eval (.Attribute (.Name x px) "nt" pos) T.env = (do
      let o ← eval (.Name x px) T.env
      standAt pos.atName
      let r ← holding [o] (getAttr o "nt" true)
      letTemporaryGo (.Name x px) o r
      pure r) := by with_unfolding_all rfl) : EV T ρ (.Attribute (.Name x px) "nt" pos) (.py (.int nt)) := fun O s Q E F k =>
  Attribute_Name_ (h O s _ E F fun v s1 F1 K1 R1 => by
    obtain ⟨x, ox, es, n, vn, t, rfl, I, e1, e2, e3, e4⟩ := WsIs.inst R1
    exact attr_own H (O.md.kin.keeps F1.old) I H.nt e3 rfl (k _ _ (F1.tok _) K1.tok (Rd.int _ _))) he

/-- a method of a Whitespace -/
theorem ws_method (H : ClsOk T.K) {name : Str} {f : Addr} (hf : findIn T.K (.ref 83) name = some (some (.ref f))) (hF : isFn T.K (.ref f) = true) (hm : name ∈ [Str.ofString "indent_level", Str.ofString "equal", Str.ofString "not_equal_witness", Str.ofString "longest_run_of_spaces"])
    {c : List Int} {b nt : Int} (O : T.Ok) (s : Shared) (v : Value) (F : FB T.C T.env ρ s) (r : RdT T.C.X s.heap v (.ws c b nt)) (pl : Sem Bool) (Q : Value × List Value → Shared → Prop) (E : Value → Shared → Prop) (h : Q (.ref f, [v]) s) : wpAny (model T.prog T.w) T.A (getMethod v name pl) Q E s := by
  obtain ⟨x, ox, es, n, vn, t, rfl, I, e1, e2, e3, e4⟩ := WsIs.inst r
  exact method_fn (O.md.kin.keeps F.old) I H.getat H.getat2 hf (beq_iff_eq.mp hF) (by show (lookIn name (dictOf es n)).map _ = _; rw [lookIn_dict, e4 _ hm]; rfl) h

/-- a constant of the class -/
theorem ev_clsS (H : ClsOk T.K) {x : Str} {px pos : Pos} {name y : Str} (h : EV T ρ (.Name x px) (.val (.ref 83))) (hy : ∃ t, findCls T.K (.ref 83) (.type "type") name = some (.val (.str y t)))
    (he : eval (.Attribute (.Name x px) name pos) T.env = (do
      let o ← eval (.Name x px) T.env
      standAt pos.atName
      let r ← holding [o] (getAttr o name true)
      letTemporaryGo (.Name x px) o r
      pure r) := by with_unfolding_all rfl) : EV T ρ (.Attribute (.Name x px) name pos) (.py (.str y)) := fun O s Q E F k =>
  Attribute_Name_ (h O s _ E F fun v s1 F1 K1 R1 => by
    obtain rfl : v = .ref 83 := R1
    obtain ⟨t, ht⟩ := hy
    exact cls_value (O.md.kin.keeps F1.old) H.reads ht rfl (k _ _ (F1.tok _) K1.tok (Rd.str _ _))) he

/-! the own dict of an object is written -/
/-- a change of one volatile object that is neither the frame nor a cell -/
theorem FB.change2 {C : Cx} {env : Env} {s : Shared} {D : Addr} {h' : Heap} {tk : Nat} {K : Frag} {mg mb : Str → Option Value} (e : EOk K mg mb C env) (F : FB C env ρ s) (hX : C.X D) (h0 : C.s₀.heap.get? D = none) (hL : env.locals ≠ D) (hc : ∀ x c, env.cells.lookup x = some c → c ≠ D)
    (keep : ∀ b o, b ≠ D → b ≠ env.locals → s.heap.get? b = some o → h'.get? b = some o) (ns : ∀ m, s.heap.Ns env.locals m → h'.Ns env.locals m) (hD : ∃ o, h'.get? D = some o) : FB C env ρ { s with heap := h', toks := tk } := by
  have hl0 : C.s₀.heap.get? env.locals = none := e.wnew _ e.wl
  refine ⟨⟨fun b o q => keep b o (fun z => ?_) (fun z => ?_) (F.old b o q), F.os, F.drawn, F.gens, F.bare, fun a ha => ?_⟩, fun x c hc' => ?_, ?_⟩
  · subst z; rw [h0] at q; cases q
  · subst z; rw [hl0] at q; cases q
  · by_cases z : a = D
    · subst z; exact hD
    · by_cases z' : a = env.locals
      · obtain ⟨m, hm, _⟩ := F.fr
        obtain ⟨o, _, _, ho, _⟩ := ns m hm
        exact ⟨o, z' ▸ ho⟩
      · obtain ⟨o, ho⟩ := F.xin a ha; exact ⟨o, keep a o z z' ho⟩
  · obtain ⟨v, o, ho, hd⟩ := F.cl x c hc'
    exact ⟨v, o, keep c o (hc x c hc') (e.cne x c hc') ho, hd⟩
  · obtain ⟨m, hm, hv⟩ := F.fr
    refine ⟨m, ns m hm, fun x d hx => ?_⟩
    obtain ⟨v, h1, h2⟩ := hv x d hx
    refine ⟨v, ?_, h2.mono (.of fun b o n q => keep b o (fun z => n (z ▸ hX)) (fun z => n (z ▸ e.wx _ e.wl)) q)⟩
    rcases h1 with h1 | ⟨h1, c, hc', ⟨o, ho, hd⟩, hxc, hne⟩
    · exact .inl h1
    · exact .inr ⟨h1, c, hc', ⟨o, keep c o (hc x c hc') hne ho, hd⟩, hxc, hne⟩

theorem upd_dict (H : ClsOk T.K) (O : T.Ok) {s : Shared} (F : FB T.C T.env ρ s) {x dx : Addr} {ox : Obj} {es : List DictEntry} {es' : Tok → List DictEntry} {n : Nat} {name : Str} {v : Value} {Q : Unit → Shared → Prop} {E : Value → Shared → Prop} (I : InstAt s.heap x ox 83 (some (dictOf es n))) (hd : ox.dict = some dx) (hdx : s.heap.get? dx = some (dictOf es n)) (hf : findIn T.K (.ref 83) name = some none)
    (hX : T.C.X dx) (h0 : T.C.s₀.heap.get? dx = none) (hL : T.env.locals ≠ dx) (hc : ∀ y c, T.env.cells.lookup y = some c → c ≠ dx)
    (hl : (getL name es).isSome = true) (e : ∀ t, putL name (PyData.keyHash T.w.params name) (.str name t) v es = es' t) (hz : ∀ t, (es' t).length ≤ 1000)
    (h : ∀ t h', FB T.C T.env ρ { s with heap := h', toks := s.toks + 1 + 1 } → Heap.get? h' dx = some (dictOf (es' t) (putN name es n)) → (∀ b o, b ≠ dx → b ≠ T.env.locals → s.heap.get? b = some o → h'.get? b = some o) → Q () { s with heap := h', toks := s.toks + 1 + 1 }) :
    wpAny (model T.prog T.w) T.A (setAttr (.ref x) name v) Q E s := by
  obtain ⟨m, hm, _⟩ := id F.fr
  have X := O.md.kin.keeps F.old
  have N : News noHeap T.env.locals s.heap ([] ++ (dx, dictOf es n) :: (allBut T.env.locals s.heap).filter (·.1 ≠ dx)) := by
    intro p hp
    rcases List.mem_cons.mp hp with rfl | hp
    · exact ⟨hdx, hL.symm, noHeap_get _⟩
    · exact news_all _ _ p (List.mem_filter.mp hp).1
  refine set_plain X I H.setat (osa_dict (s := { s with toks := s.toks + 1 }) (pre := []) (fr_all hm) N X I hd H.over (ClsOk.taker hf) H.hasD hl (fun _ hp => nomatch hp) (fun p hp => by simpa using (List.mem_filter.mp hp).2)
    (by rw [putName_dict, e]) rfl (hz _) fun h' F' N' => ?_)
  have hk : ∀ b o, b ≠ dx → b ≠ T.env.locals → s.heap.get? b = some o → h'.get? b = some o := fun b o z z' q =>
    (N' (b, o) (List.mem_cons_of_mem _ (List.mem_filter.mpr ⟨mem_allBut.mpr ⟨z', q⟩, by simpa using z⟩))).1
  have hD' := (N' _ List.mem_cons_self).1
  exact h _ h' (F.change2 O.toEOk hX h0 hL hc hk (fun m' hm' => ns_unique hm hm' ▸ F'.ns) ⟨_, hD'⟩) hD' hk

/-- self.name = e -/
theorem ex_setattr (H : ClsOk T.K) (O : T.Ok) {s : Shared} (F : FB T.C T.env ρ s) {x dx : Addr} {es : List DictEntry} {es' : Value → Tok → List DictEntry} {n : Nat} {name sn : Str} {e : Expr} {d : Dt} {sp ap pos : Pos} {rest : List Stmt} {Q : Flow → Shared → Prop} {E : Value → Shared → Prop}
    (hs : EV T ρ (.Name sn sp) (.val (.ref x))) (he : EV T ρ e d) (hx : T.C.s₀.heap.get? x = some (instObj 83 dx)) (hdx : s.heap.get? dx = some (dictOf es n)) (hf : findIn T.K (.ref 83) name = some none)
    (hX : T.C.X dx) (h0 : T.C.s₀.heap.get? dx = none) (hL : T.env.locals ≠ dx) (hc : ∀ y c, T.env.cells.lookup y = some c → c ≠ dx)
    (hl : (getL name es).isSome = true) (hp : ∀ v t, putL name (PyData.keyHash T.w.params name) (.str name t) v es = es' v t) (hz : ∀ v t, (es' v t).length ≤ 1000)
    (k : ∀ v t s', FB T.C T.env ρ s' → RdT T.C.X s'.heap v d → s'.heap.get? dx = some (dictOf (es' v t) (putN name es n)) → (∀ b o, b ≠ dx → b ≠ T.env.locals → s.heap.get? b = some o → s'.heap.get? b = some o) → wpAny (model T.prog T.w) T.A (execs rest T.env) Q E s')
    (hw : swapsWith e (some (.Attribute (.Name sn sp) name ap)) pos.line T.env = pure false := by rfl) :
    wpAny (model T.prog T.w) T.A (execs (.Assign [.Attribute (.Name sn sp) name ap] e pos :: rest) T.env) Q E s := by
  refine wpAny_execs_cons (plainObj_wpAny_Assign_Attribute (he O s _ E F fun v s1 F1 K1 R1 => hs O s1 _ E F1 fun u s2 F2 K2 R2 => ?_) hw)
  obtain rfl : u = .ref x := R2
  have hk2 : ∀ b o, b ≠ T.env.locals → s.heap.get? b = some o → s2.heap.get? b = some o := fun b o z q => K2.heap b o z (K1.heap b o z q)
  have hdx2 := hk2 dx _ hL.symm hdx
  refine upd_dict H O F2 (ox := instObj 83 dx) ⟨F2.old _ _ hx, rfl, rfl, hdx2⟩ rfl hdx2 hf hX h0 hL hc hl (hp v) (hz v) fun t h' F3 hD3 hk3 => ?_
  refine k v t _ F3 ?_ hD3 fun b o z z' q => hk3 b o z z' (hk2 b o z' q)
  exact (Ke.rd (O := O) K2 R1).mono (.of fun b o n q => hk3 b o (fun z => n (z ▸ hX)) (fun z => n (z ▸ O.wx _ O.wl)) q)

/-- self.name read from the dict that is being written -/
theorem attr_mine (H : ClsOk T.K) (O : T.Ok) {s : Shared} (F : FB T.C T.env ρ s) {x dx : Addr} {es : List DictEntry} {n : Nat} {name sn : Str} {sp pos : Pos} {v : Value} {Q : Value → Shared → Prop} {E : Value → Shared → Prop}
    (hs : EV T ρ (.Name sn sp) (.val (.ref x))) (hx : T.C.s₀.heap.get? x = some (instObj 83 dx)) (hL : T.env.locals ≠ dx) (hdx : s.heap.get? dx = some (dictOf es n)) (hf : findIn T.K (.ref 83) name = some none)
    (hl : getL name es = some (some v)) (hv : handedIn v = true) (k : ∀ s', FB T.C T.env ρ s' → Ke T.env.locals s s' → Q v s')
    (he : eval (.Attribute (.Name sn sp) name pos) T.env = (do
      let o ← eval (.Name sn sp) T.env
      standAt pos.atName
      let r ← holding [o] (getAttr o name true)
      letTemporaryGo (.Name sn sp) o r
      pure r) := by with_unfolding_all rfl) : wpAny (model T.prog T.w) T.A (eval (.Attribute (.Name sn sp) name pos) T.env) Q E s :=
  Attribute_Name_ (hs O s _ E F fun u s1 F1 K1 R1 => by
    obtain rfl : u = .ref x := R1
    exact attr_own H (O.md.kin.keeps F1.old) (ox := instObj 83 dx) ⟨F1.old _ _ hx, rfl, rfl, K1.heap _ _ hL.symm hdx⟩ hf hl hv (k _ (F1.tok _) K1.tok)) he
end
end Mine

end
section
set_option Elab.async false
set_option maxRecDepth 100000
set_option autoImplicit false
set_option linter.unusedVariables false
set_option linter.unusedSimpArgs false
namespace Mine
open PySem PySem.W PyProof.Rows PySem.Calls PySem.SeqAt

section
variable {T : Tx} {ρ : Rho}

/-! lists made by this call -/
theorem ev_own {e : Expr} {h0 : Heap} {ds : List PyData} (h : EV T ρ e (.own h0 ds)) : EV T ρ e (.py (.list ds)) := fun O s Q E F k =>
  h O s Q E F fun v s' F' K' R' => k v s' F' K' (by obtain ⟨a, vs, rfl, hx, h0, hl, hr⟩ := R'.ex; exact Rd.mkList hx hl hr)
theorem new_s0 {C : Cx} {env : Env} {s : Shared} (F : FB C env ρ s) : C.s₀.heap.get? s.heap.objs.size = none := by
  cases q : C.s₀.heap.get? s.heap.objs.size with
  | none => rfl
  | some o => have := F.old _ _ q; rw [size_none] at this; cases this
theorem ev_nilO {pos : Pos} : EV T ρ (.List [] pos) (.own T.C.s₀.heap []) := fun O s Q E F k =>
  List_ (evs_nil O pos s _ E F fun vs s1 F1 K1 R1 => by
    have hvs : vs = [] := by cases vs with | nil => rfl | cons v vs => exact R1.elim
    subst hvs
    have op : OP T (newList []) s1 (.own T.C.s₀.heap []) := fun Q E k => wpAny_newObj_type (k _ _ s1.toks (.of_stays fun _ _ e => Heap.get?_push_of_some _ e) ⟨_, [], rfl, new_off F1, new_s0 F1, ⟨_, Heap.get?_push_size _ rfl, rfl, 0, rfl⟩, .nil⟩) (by show (#[] : Array Value).size ≤ sizeLine; decide)
    exact op.ev O F1 K1 k)
theorem ev_addLO {l r : Expr} {pos : Pos} {a b : List PyData} (h1 : EV T ρ l (.py (.list a))) (h2 : EV T ρ r (.py (.list b))) (hz : a.length + b.length ≤ sizeLine) : EV T ρ (.BinOp l .Add r pos) (.own T.C.s₀.heap (a ++ b)) :=
  ev_bin h1 h2 fun O s v1 v2 F r1 r2 => by
    obtain ⟨x, vs, rfl, hx, hl, ra⟩ := Rd.list_inv r1; obtain ⟨y, ws, rfl, hy, hm, rb⟩ := Rd.list_inv r2
    obtain ⟨m, hn, _⟩ := F.fr
    refine fun Q E k => add_arrays (fr_all hn) (news_all _ _) hl hm (fun h' F' N' => ?_) (by simp only [List.size_toArray]; rw [ra.1, rb.1]; exact hz)
    have kp := kp_tl hn F' N'
    have hN := N' _ List.mem_cons_self
    refine k _ h' _ kp ⟨_, vs ++ ws, rfl, new_off F, new_s0 F, ⟨_, hN.1, rfl, 0, by simp⟩, ?_⟩
    exact (ra.append rb).mono (.of fun b o n e => kp.keep b o (fun q => n (q ▸ O.wx _ O.wl)) e)

/-- data that read nothing -/
inductive FlatD : Dt → Prop
  | int (i : Int) : FlatD (.py (.int i))
  | str (x : Str) : FlatD (.py (.str x))
  | val (v : Value) : FlatD (.val v)
theorem FlatD.rd {d : Dt} (f : FlatD d) {X : Vol} {h : Heap} {v : Value} (r : RdT X h v d) : ∀ X' h', RdT X' h' v d := by
  intro X' h'
  cases f with
  | int i => obtain ⟨t, rfl⟩ := Rd.int_inv r; exact Rd.int _ _
  | str x => obtain ⟨t, rfl⟩ := Rd.str_inv r; exact Rd.str _ _
  | val u => exact r

/-- what the own list's change leaves -/
def Kn (T : Tx) (s s' : Shared) : Prop := ∀ b o, ¬ SW T b → ¬ (o.cls = .type "list") → s.heap.get? b = some o → s'.heap.get? b = some o
theorem Kn.of {s s' : Shared} (k : Kw (SW T) s s') : Kn T s s' := fun b o n _ e => k.heap b o n e
theorem Kn.trans {s s' s'' : Shared} (a : Kn T s s') (b : Kn T s' s'') : Kn T s s'' := fun c o n r e => b c o n r (a c o n r e)

/-- x[i] = e for an int e and the own list x of ints; the rest of what is known reads nothing -/
theorem ex_setitem {x : Str} {px tp pos : Pos} {ie e : Expr} {rest : List Stmt} {ds : List PyData} {i : Nat} {b : Int} {ρ' : Rho} {Q : Flow → Shared → Prop} {E : Value → Shared → Prop} {s : Shared} (O : T.Ok) (F : FB T.C T.env ρ s)
    (he : EV T ρ e (.py (.int b))) (hi : EV T ρ ie (.py (.int i))) (hlt : i < ds.length) (hz : ds.length ≤ 1000) (hds : ∀ d ∈ ds, ∃ n, d = .int n)
    (hfl : ∀ p ∈ ρ', FlatD p.2 ∧ ρ.lookup p.1 = some p.2) (hxl : ρ.lookup x = some (.own T.C.s₀.heap ds)) (hxk : T.env.kindOf x = some .local)
    (k : ∀ s', FB T.C T.env ((x, .own T.C.s₀.heap (ds.set i (.int b))) :: ρ') s' → Kn T s s' → wpAny (model T.prog T.w) T.A (execs rest T.env) Q E s')
    (hs : swapsWith e (some (.Subscript (.Name x px) ie tp)) pos.line T.env = pure false := by rfl) (hd : (x == ("__debug__" : Str)) = false := by rfl) : wpAny (model T.prog T.w) T.A (execs (.Assign [.Subscript (.Name x px) ie tp] e pos :: rest) T.env) Q E s := by
  refine wpAny_execs_cons (wpAny_Assign_Subscript (he O s _ E F fun v s1 F1 K1 R1 => ?_) hs)
  obtain ⟨m, hm, hv⟩ := id F1.fr
  obtain ⟨u, hu, hru⟩ := hv x _ hxl
  have hu' : m x = some u := by
    rcases hu with ⟨_, h⟩ | ⟨h, _⟩
    · exact h
    · rw [hxk] at h; rcases h with h | h <;> cases h
  refine wpAny_Name (wpAny_loadName_local O.kind hxk hm hu' (hi O s1 _ E F1 fun iv s3 F3 K3 R3 => ?_)) hd
  obtain ⟨D, vs, rfl, hXD, h0, hl, hr⟩ := OwnIs.ex (Ke.rd (O := O) K3 hru)
  obtain ⟨t, rfl⟩ := Rd.int_inv R3
  obtain ⟨tb, rfl⟩ := Rd.int_inv R1
  have hm3 := K3.ns m hm
  have hlen : vs.length = ds.length := hr.1
  refine wpAny_setItem_list hl (by omega) (by omega) (by rw [List.size_toArray]; omega) fun h' hl' hs' => ?_
  have hDo : ∃ o, s3.heap.get? D = some o ∧ o.cls = .type "list" := by obtain ⟨o, ho, hc, _⟩ := hl; exact ⟨o, ho, hc⟩
  have hLD : T.env.locals ≠ D := fun q => hXD (q ▸ O.wx _ O.wl)
  have hkp : ∀ b o, b ≠ D → s3.heap.get? b = some o → h'.get? b = some o := fun b o z q => hs'.extBut b o z q
  refine k _ ?_ ?_
  · refine ⟨⟨fun b o q => hkp b o (fun z => by subst z; rw [h0] at q; cases q) (F3.old b o q), F3.os, F3.drawn, F3.gens, F3.bare, fun a ha => ?_⟩, fun y c hc => ?_, m, hm3.sameBut hs' hLD, fun y d hy => ?_⟩
    · obtain ⟨o, ho⟩ := F3.xin a ha; exact ⟨o, hkp a o (fun z => hXD (z ▸ ha)) ho⟩
    · obtain ⟨v, o, ho, hd⟩ := F3.cl y c hc
      exact ⟨v, o, hkp c o (fun z => hXD (z ▸ O.cx y c hc)) ho, hd⟩
    · rw [List.lookup_cons] at hy
      by_cases q : y = x
      · subst q
        simp only [beq_self_eq_true] at hy
        cases hy
        refine ⟨.ref D, .inl ⟨hxk, hu'⟩, ⟨D, vs.set i (.int b tb), rfl, hXD, h0, ?_, by simp [hlen], fun j v d e1 e2 => ?_⟩⟩
        · simpa using hl'
        · rw [List.getElem?_set] at e1 e2
          by_cases z : i = j
          · subst z
            rw [if_pos rfl, if_pos (by omega)] at e1
            rw [if_pos rfl, if_pos hlt] at e2
            cases e1; cases e2
            exact Rd.int _ _
          · rw [if_neg z] at e1 e2
            have := hr.2 j v d e1 e2
            obtain ⟨n, rfl⟩ := hds d (List.mem_of_getElem? e2)
            obtain ⟨tt, rfl⟩ := Rd.int_inv this
            exact Rd.int _ _
      · have q' : (y == x) = false := by simpa using q
        rw [q'] at hy
        obtain ⟨hf, hyl⟩ := hfl (y, d) (mem_of_lookup hy)
        obtain ⟨m', hm', hv'⟩ := F3.fr
        obtain rfl := ns_unique hm3 hm'
        obtain ⟨v, h1, h2⟩ := hv' y d hyl
        refine ⟨v, ?_, hf.rd h2 _ _⟩
        rcases h1 with h1 | ⟨h1, c, hc', ⟨o, ho, hd⟩, hxc, hne⟩
        · exact .inl h1
        · exact .inr ⟨h1, c, hc', ⟨o, hkp c o (fun z => hXD (z ▸ hxc)) ho, hd⟩, hxc, hne⟩
  · intro b o n hnl q
    have q3 := K3.heap b o (fun z => n (z ▸ ⟨O.wl, .inl rfl⟩)) (K1.heap b o (fun z => n (z ▸ ⟨O.wl, .inl rfl⟩)) q)
    refine hkp b o (fun z => ?_) q3
    subst z
    obtain ⟨o', ho', hc'⟩ := hDo
    rw [q3] at ho'; cases ho'
    exact hnl hc'

/-! a loop over a text whose turns may change own lists -/
def ITatS (T : Tx) (ρ : Rho) (e : Expr) (ds : List PyData) (s : Shared) : Prop := ∀ (Q : Value → Shared → Prop) E,
  (∀ I s' P St, FB T.C T.env ρ s' → Ke T.env.locals s s' → Walk T ds I s' [I] P St → s.heap.get? I = none → Q (.ref I) s') →
  wpAny (model T.prog T.w) T.A (eval e T.env) (fun x s1 => wpAny (model T.prog T.w) T.A (pyIter x) Q E s1) E s
theorem iter_str {s s1 : Shared} {x : Str} {t : Tok} {Q : Value → Shared → Prop} {E : Value → Shared → Prop} (O : T.Ok) (F1 : FB T.C T.env ρ s1) (K1 : Ke T.env.locals s s1)
    (k : ∀ I s' P St, FB T.C T.env ρ s' → Ke T.env.locals s s' → Walk T (charsOf x) I s' [I] P St → s.heap.get? I = none → Q (.ref I) s') : wpAny (model T.prog T.w) T.A (pyIter (.str x t)) Q E s1 := by
  have st : ∀ ob : Obj, s1.heap.StaysIn (s1.heap.push ob) := fun ob b o e => Heap.get?_push_of_some _ e
  have hlen : (charsOf x).length = x.cps.size := by simp [charsOf]
  obtain ⟨m, hm, _⟩ := F1.fr
  have rdw : ∀ (h : Heap) (i : Nat) v d, SignAt x i v → (charsOf x)[i]? = some d → Rd T.C.X h v d := by
    rintro h i v d ⟨c, u, hc, rfl⟩ hd
    have hc' : x.cps.toList[i]? = some c := by simpa using hc
    simp only [charsOf, List.getElem?_map, hc', Option.map_some] at hd
    cases hd
    exact .str _ _
  have off : ∀ b ∈ [s1.heap.objs.size], ¬ T.C.X b := fun b hb => by rw [List.mem_singleton.mp hb]; exact new_off F1
  cases ha : x.cps.all (· < 128)
  · refine wpAny_pyIter_wide ha (k _ _ (SignAt x) (fun i h => h.IsStrIter s1.heap.objs.size "str_iterator" x t i) (F1.step O.toEOk (.of_stays (st _)) (tk := s1.toks)) (K1.trans (.step (.of_stays (st _)))) ⟨hlen ▸ Walks.strWide O.handled _ x t, ⟨_, Heap.get?_push_size _ rfl, rfl, rfl⟩, off, ?_, rdw _, by simp, fun b hb => by rw [List.mem_singleton.mp hb]; exact ⟨_, Heap.get?_push_size _ rfl⟩⟩ (K1.none hm (size_none _)))
    rintro i h o ⟨o', ho', hc, _⟩ ho
    rw [ho'] at ho; cases ho
    exact not_rel hc (by decide) (by decide) (by decide)
  · refine wpAny_pyIter_ascii ha (k _ _ (SignAt x) (fun i h => h.IsStrIter s1.heap.objs.size "str_ascii_iterator" x t i) (F1.step O.toEOk (.of_stays (st _)) (tk := s1.toks)) (K1.trans (.step (.of_stays (st _)))) ⟨hlen ▸ Walks.strAscii O.handled _ x t, ⟨_, Heap.get?_push_size _ rfl, rfl, rfl⟩, off, ?_, rdw _, by simp, fun b hb => by rw [List.mem_singleton.mp hb]; exact ⟨_, Heap.get?_push_size _ rfl⟩⟩ (K1.none hm (size_none _)))
    rintro i h o ⟨o', ho', hc, _⟩ ho
    rw [ho'] at ho; cases ho
    exact not_rel hc (by decide) (by decide) (by decide)

theorem ex_forS {x : Str} {px pos : Pos} {iter : Expr} {body rest : List Stmt} {y : Str} {Q : Flow → Shared → Prop} {E : Value → Shared → Prop} {s : Shared} (ρs : Nat → Rho) (G : Nat → Heap → Prop)
    (O : T.Ok) (F : FB T.C T.env (ρs 0) s) (hG : G 0 s.heap) (hGs : ∀ i h h', G i h → (∀ b o, T.C.X b → ¬ SW T b → h.get? b = some o → h'.get? b = some o) → G i h') (hI : ITatS T (ρs 0) iter (charsOf y) s) (hx : STO T x)
    (turn : ∀ (i : Nat) d, (charsOf y)[i]? = some d → ∀ s' E', FB T.C T.env ((x, .py d) :: ρs i) s' → G i s'.heap →
      wpAny (model T.prog T.w) T.A (execs body T.env) (fun fl s'' => match fl with
        | .next | .cont => FB T.C T.env (ρs (i + 1)) s'' ∧ G (i + 1) s''.heap ∧ Kn T s' s''
        | .brk => wpAny (model T.prog T.w) T.A (execs rest T.env) Q E s''
        | .ret v => Q (.ret v) s'') E' s')
    (done : ∀ s', FB T.C T.env (ρs (charsOf y).length) s' → G (charsOf y).length s'.heap → wpAny (model T.prog T.w) T.A (execs rest T.env) Q E s')
    (hs : ∀ v, foldedSetIterable iter T.env v = pure v := by intro _; rfl) (ht : ∀ it v, letOwnedTupleGo (.Name x px) it v = pure () := by intro _ _; rfl) :
    wpAny (model T.prog T.w) T.A (execs (.For (.Name x px) iter body [] pos :: rest) T.env) Q E s := by
  refine wpAny_execs_cons (wpAny_For (hI _ E fun I s1 P St F1 K1 W hnew => ?_) hs)
  have hIX : ¬ T.C.X I := W.off I W.inI
  have hI0 : T.C.s₀.heap.get? I = none := by
    cases q : T.C.s₀.heap.get? I with
    | none => rfl
    | some o => have := F.old I o q; rw [hnew] at this; cases this
  have hG1 : G 0 s1.heap := hGs 0 _ _ hG fun b o _ n e => K1.heap b o (fun z => n (z ▸ ⟨O.wl, .inl rfl⟩)) e
  have next : ∀ {i : Nat} {s2 : Shared} {h' : Heap} {tk : Nat}, FB T.C T.env (ρs i) s2 → G i s2.heap → St i s2.heap → (∀ b o, b ∉ [I] → s2.heap.get? b = some o → h'.get? b = some o) →
      FB T.C T.env (ρs i) { s2 with heap := h', toks := tk } ∧ G i h' := fun {i s2 h' tk} F2 G2 S2 hk =>
    ⟨F2.but O.toEOk hIX hI0 (fun o ho => W.irr i _ o S2 ho) (Gb.of_heap hk), hGs i _ _ G2 fun b o hb _ e => hk b o (by simp; exact fun z => hIX (z ▸ hb)) e⟩
  refine codeAny_forLoop (fun n s2 => ∃ i, n = (charsOf y).length + 1 - i ∧ i ≤ (charsOf y).length ∧ FB T.C T.env (ρs i) s2 ∧ G i s2.heap ∧ St i s2.heap) ?_ ((charsOf y).length + 1) ⟨0, rfl, Nat.zero_le _, F1, hG1, W.start⟩ (ht _)
  rintro n s2 ⟨i, rfl, hi, F2, G2, S2⟩
  by_cases hlt : i < (charsOf y).length
  · refine W.walks.item i s2 _ _ hlt S2 fun v h' tk hP hS hk => ?_
    obtain ⟨F3, G3⟩ := next (tk := tk) F2 G2 S2 hk
    have hd : (charsOf y)[i]? = some (charsOf y)[i] := by simp [hlt]
    have r1 : Rd T.C.X s1.heap v (charsOf y)[i] := W.rd i v _ hP hd
    have r3 : Rd T.C.X h' v (charsOf y)[i] := by
      have e : (charsOf y)[i] = .str ⟨#[y.cps.toList[i]'(by simpa [charsOf] using hlt)]⟩ := by simp [charsOf]
      rw [e] at r1 ⊢
      obtain ⟨t, rfl⟩ := Rd.str_inv r1
      exact Rd.str _ _
    refine wpAny_assign_Name (st_name O F3 (d := .py (charsOf y)[i]) r3 (fun s4 F4 K4 => ?_) hx)
    have G4 : G i s4.heap := hGs i _ _ G3 fun b o _ n e => K4.heap b o n e
    refine wpAny_mono (turn i _ hd s4 _ F4 G4) (fun fl s5 h5 => ?_) fun _ _ e => e
    have fin : FB T.C T.env (ρs (i + 1)) s5 ∧ G (i + 1) s5.heap ∧ Kn T s4 s5 → ∃ m, m < (charsOf y).length + 1 - i ∧ ∃ j, m = (charsOf y).length + 1 - j ∧ j ≤ (charsOf y).length ∧ FB T.C T.env (ρs j) s5 ∧ G j s5.heap ∧ St j s5.heap := by
      rintro ⟨F5, G5, K5⟩
      refine ⟨(charsOf y).length + 1 - (i + 1), by omega, i + 1, rfl, hlt, F5, G5, ?_⟩
      refine W.walks.frame _ _ _ hS fun b hb o e => ?_
      obtain rfl := List.mem_singleton.mp hb
      have hb' : ¬ SW T b := fun q => hIX (O.wx _ q.1)
      exact K5 b o hb' (fun z => W.irr _ _ o hS e (.inl z)) (K4.heap b o hb' e)
    cases fl with
    | next => exact fin h5
    | cont => exact fin h5
    | brk => exact h5
    | ret v => exact h5
  · have hi' : i = (charsOf y).length := by omega
    subst hi'
    refine W.walks.done s2 _ _ S2 fun h' tk hk => wpAny_execs_nil ?_
    obtain ⟨F3, G3⟩ := next (tk := tk) F2 G2 S2 hk
    exact done _ F3 G3
end
end Mine

end
section
set_option Elab.async false
set_option maxRecDepth 100000
set_option autoImplicit false
set_option linter.unusedVariables false
set_option linter.unusedSimpArgs false
namespace Mine
open PySem PySem.W PyProof.Rows PySem.Calls PySem.SeqAt

def fName : Stmt → Str
  | .FunctionDef n _ _ _ _ _ _ _ _ _ => n
  | _ => ""
def fArgs : Stmt → Arguments
  | .FunctionDef _ a _ _ _ _ _ _ _ _ => a
  | _ => { posonlyargs := [], args := [], vararg := none, kwonlyargs := [], kw_defaults := [], kwarg := none, defaults := [] }
/-- the function object's record of a def of the text -/
def fdOf (st : Stmt) (ql : Str) (pm cd : Value) : FuncData :=
  { name := fName st, qualname := ql, params := fArgs st, body := .stmts (fBody st), scope := fScope st, globals := 3, closure := [], defaults := .none, kwdefaults := .none, pyModule := pm, code := cd }
structure FnAt (K : Frag) (f : Addr) (st : Stmt) (ql : Str) : Prop where
  ex : ∃ pm cd o, K.lookup f = some o ∧ o.data = .func (fdOf st ql pm cd) ∧ codeIn K cd ql = true
theorem FnAt.ok {K : Frag} {f : Addr} {st : Stmt} {ql : Str} (H : FnAt K f st ql) (names : List Str) (kind : (fScope st).kind = .function) (co : (fScope st).isCoroutine = false) (gen : (fScope st).isGenerator = false)
    (binds : ∀ (pm cd : Value) (vs : List Value), vs.length = names.length → bindArgs (fdOf st ql pm cd) ⟨vs, []⟩ = pure (names.zip vs)) (nodup : names.Nodup)
    (kinds : ∀ x ∈ names, (fScope st).names.lookup x = some .local ∨ (fScope st).names.lookup x = some .cell) : ∃ pm cd, FnOk K f (fdOf st ql pm cd) names (fBody st) := by
  obtain ⟨pm, cd, o, h1, h2, h3⟩ := H.ex
  exact ⟨pm, cd, ⟨o, h1, h2⟩, h3, rfl, rfl, rfl, rfl, kind, co, gen, binds pm cd, nodup, kinds⟩
theorem two_args {names : List Str} {f : List Value → Sem (List (Str × Value))} {x y : Str} (e : names = [x, y]) (h : ∀ a b, f [a, b] = pure [(x, a), (y, b)]) : ∀ vs : List Value, vs.length = names.length → f vs = pure (names.zip vs) := by
  subst e
  intro vs hv
  match vs, hv with
  | [a, b], _ => exact h a b
theorem one_arg {names : List Str} {f : List Value → Sem (List (Str × Value))} {x : Str} (e : names = [x]) (h : ∀ a, f [a] = pure [(x, a)]) : ∀ vs : List Value, vs.length = names.length → f vs = pure (names.zip vs) := by
  subst e
  intro vs hv
  match vs, hv with
  | [a], _ => exact h a

inductive Sub : Rho → Rho → Prop
  | nil {ρ : Rho} : Sub [] ρ
  | cons {ρ ρ' : Rho} {x : Str} {d : Dt} : ρ.lookup x = some d → Sub ρ' ρ → Sub ((x, d) :: ρ') ρ
theorem Sub.mem {ρ ρ' : Rho} (h : Sub ρ' ρ) : ∀ p ∈ ρ', ρ.lookup p.1 = some p.2 := by
  induction h with
  | nil => intro p hp; cases hp
  | cons h _ ih =>
    intro p hp
    rcases List.mem_cons.mp hp with rfl | hp
    · exact h
    · exact ih p hp
theorem FB.sub {C : Cx} {env : Env} {ρ ρ' : Rho} {s : Shared} (F : FB C env ρ s) (h : Sub ρ' ρ) : FB C env ρ' s := by
  refine ⟨F.toSt, F.cl, ?_⟩
  obtain ⟨m, hm, hv⟩ := F.fr
  exact ⟨m, hm, fun x d hx => hv x d (h.mem _ (mem_of_lookup hx))⟩

theorem okInit {K : Frag} (H : FnAt K 38 (methAt 1) "Whitespace.__init__") : ∃ pm cd, FnOk K 38 (fdOf (methAt 1) "Whitespace.__init__" pm cd) ["self", "ws"] (fBody (methAt 1)) :=
  H.ok _ rfl rfl rfl (fun pm cd => two_args rfl fun a b => rfl) (by decide) (by intro x hx; rcases List.mem_cons.mp hx with rfl | hx; exact .inl rfl; rw [List.mem_singleton.mp hx]; exact .inl rfl)
end Mine

end
section
set_option Elab.async false
set_option maxRecDepth 100000
set_option autoImplicit false
set_option linter.unusedVariables false
set_option linter.unusedSimpArgs false
namespace Mine
open PySem PySem.W PyProof.Rows PySem.Calls PySem.SeqAt

/-! Whitespace(ws): the plain account -/
structure WS where
  count : List Int
  b : Nat
  n : Nat
  nt : Nat
def padS (st : WS) : List Int := if st.b ≥ st.count.length then st.count ++ List.replicate (st.b - st.count.length + 1) 0 else st.count
def stepS (st : WS) (c : Nat) : WS :=
  if c = 32 then ⟨st.count, st.b + 1, st.n + 1, st.nt⟩
  else ⟨(padS st).set st.b ((padS st).getD st.b 0 + 1), 0, st.n + 1, st.nt + 1⟩
def blank (c : Nat) : Bool := c == 32 || c == 9
def runS : List Nat → WS → WS
  | [], st => st
  | c :: r, st => if blank c then runS r (stepS st c) else st
def wsOf (x : Str) : WS := runS x.cps.toList ⟨[], 0, 0, 0⟩
def foldS (l : List Nat) : WS := l.foldl stepS ⟨[], 0, 0, 0⟩

theorem runS_stop : ∀ (l : List Nat) (i : Nat) (st : WS), (∀ c ∈ l.take i, blank c = true) → (∀ c, l[i]? = some c → blank c = false) → runS l st = (l.take i).foldl stepS st
  | [], _, st, _, _ => by simp [runS]
  | c :: r, 0, st, _, h => by simp [runS, h c rfl]
  | c :: r, i + 1, st, h1, h2 => by
    have hc : blank c = true := h1 c (by simp)
    simp only [runS, hc, if_true, List.take_succ_cons, List.foldl_cons]
    exact runS_stop r i _ (fun c hc => h1 c (by simp [hc])) (fun c hc => h2 c (by simpa using hc))
theorem foldS_succ {l : List Nat} {i c : Nat} (h : l[i]? = some c) : foldS (l.take (i + 1)) = stepS (foldS (l.take i)) c := by
  unfold foldS
  rw [List.take_add_one, h, Option.toList_some, List.foldl_append]; rfl
theorem padS_len (st : WS) : (padS st).length = max st.count.length (st.b + 1) := by
  unfold padS; split
  · simp; omega
  · omega
theorem foldS_bound : ∀ (l : List Nat) (st : WS) (k : Nat), st.b ≤ k → st.count.length ≤ k → (l.foldl stepS st).b ≤ k + l.length ∧ (l.foldl stepS st).count.length ≤ k + l.length
  | [], st, k, h1, h2 => ⟨h1, h2⟩
  | c :: r, st, k, h1, h2 => by
    have := foldS_bound r (stepS st c) (k + 1) (by unfold stepS; split <;> simp <;> omega) (by
      unfold stepS; split
      · simp; omega
      · simp [padS_len]; omega)
    simp only [List.foldl_cons, List.length_cons]
    omega

/-- the globals and built-ins that the text reads -/
structure GOk (mg mb : Str → Option Value) : Prop where
  ws : mg "Whitespace" = some (.ref 83)
  strcoll : mg "_strcoll" = some (.ref 94)
  grp : mg "_grouping_intervals" = some (.ref 101)
  lead : mg "_law_lead" = some (.ref 106)
  gaps : mg "_law_gaps" = some (.ref 111)
  row : mg "_law_row" = some (.ref 116)
  stand : mg "_law_stand" = some (.ref 123)
  read : mg "_law_read" = some (.ref 130)
  pair : mg "_law_pair" = some (.ref 135)
  blind : mg "_law_blind" = some (.ref 140)
  charmax : ∃ t, mg "CHAR_MAX" = some (.int 127 t)
  len : mg "len" = none ∧ mb "len" = some (.builtin "len")
  tuple : mg "tuple" = none ∧ mb "tuple" = some (.type "tuple")
  range : mg "range" = none ∧ mb "range" = some (.type "range")
  max : mg "max" = none ∧ mb "max" = some (.builtin "max")
  min : mg "min" = none ∧ mb "min" = some (.builtin "min")
  sum : mg "sum" = none ∧ mb "sum" = some (.builtin "sum")
  sorted : mg "sorted" = none ∧ mb "sorted" = some (.builtin "sorted")
  isi : mg "isinstance" = none ∧ mb "isinstance" = some (.builtin "isinstance")
  bool : mg "bool" = none ∧ mb "bool" = some (.type "bool")

section
variable {T : Tx} {ρ : Rho}
theorem ev_lenL (G : GOk T.mg T.mb) {e : Expr} {np pos : Pos} {ds : List PyData} (h : EV T ρ e (.py (.list ds))) (hz : ds.length < 2 ^ 62) (hx : T.env.kindOf "len" = some .globalImplicit)
    (hst : starEach [e] T.env = [(false, eval e T.env)] := by rfl)
    (he : eval (.Call (.Name "len" np) [e] [] pos) T.env = (do callWith pos (← eval (.Name "len" np) T.env) [] (backTo pos (starEach [e] T.env)) (backToKw pos (keywordEach [] T.env))) := by rfl) :
    EV T ρ (.Call (.Name "len" np) [e] [] pos) (.py (.int ds.length)) :=
  ev_bcall (ev_bui G.len.1 G.len.2 hx) (fun a h => by cases h) (evs_cons h evs_nil hst) (fun O s vs F r => op_lenL r hz) he (by rw [hst]; rfl)
theorem ev_lenS (G : GOk T.mg T.mb) {e : Expr} {np pos : Pos} {x : Str} (h : EV T ρ e (.py (.str x))) (hz : x.length < 2 ^ 62) (hx : T.env.kindOf "len" = some .globalImplicit)
    (hst : starEach [e] T.env = [(false, eval e T.env)] := by rfl)
    (he : eval (.Call (.Name "len" np) [e] [] pos) T.env = (do callWith pos (← eval (.Name "len" np) T.env) [] (backTo pos (starEach [e] T.env)) (backToKw pos (keywordEach [] T.env))) := by rfl) :
    EV T ρ (.Call (.Name "len" np) [e] [] pos) (.py (.int x.length)) :=
  ev_bcall (ev_bui G.len.1 G.len.2 hx) (fun a h => by cases h) (evs_cons h evs_nil hst) (fun O s vs F r => op_lenS r hz) he (by rw [hst]; rfl)
theorem ev_lenT (G : GOk T.mg T.mb) {e : Expr} {np pos : Pos} {ds : List PyData} (h : EV T ρ e (.py (.tuple ds))) (hz : ds.length < 2 ^ 62) (hx : T.env.kindOf "len" = some .globalImplicit)
    (hst : starEach [e] T.env = [(false, eval e T.env)] := by rfl)
    (he : eval (.Call (.Name "len" np) [e] [] pos) T.env = (do callWith pos (← eval (.Name "len" np) T.env) [] (backTo pos (starEach [e] T.env)) (backToKw pos (keywordEach [] T.env))) := by rfl) :
    EV T ρ (.Call (.Name "len" np) [e] [] pos) (.py (.int ds.length)) :=
  ev_bcall (ev_bui G.len.1 G.len.2 hx) (fun a h => by cases h) (evs_cons h evs_nil hst) (fun O s vs F r => op_lenT r hz) he (by rw [hst]; rfl)
end

def rhoS (h0 : Heap) (x : Addr) (y : Str) (st : WS) : Rho :=
  [("nt", .py (.int st.nt)), ("n", .py (.int st.n)), ("b", .py (.int st.b)), ("count", .own h0 (st.count.map .int)), ("S", .py (.str " ")), ("T", .py (.str "\t")), ("self", .val (.ref x)), ("ws", .py (.str y))]

theorem map_rep (c : List Int) (k : Nat) : c.map PyData.int ++ (List.replicate k [PyData.int 0]).flatten = (c ++ List.replicate k 0).map PyData.int := by
  rw [List.map_append]
  congr 1
  induction k with
  | zero => rfl
  | succ k ih => rw [List.replicate_succ, List.replicate_succ, List.flatten_cons, List.map_cons, ← ih]; rfl
theorem map_set (c : List Int) (i : Nat) (v : Int) : (c.map PyData.int).set i (.int v) = (c.set i v).map PyData.int := by
  rw [List.map_set]
theorem str1_ne {c d : Nat} (h : ¬ c = d) : ((⟨#[c]⟩ : Str) == ⟨#[d]⟩) = false := by
  simp; exact h

def loopBody : Stmt → List Stmt
  | .For _ _ b _ _ => b
  | _ => []

abbrev TI (prog : Program) (w : World) (K : Frag) (mg mb : Str → Option Value) (C : Cx) (A : Around) (L : Addr) (n : Nat) (pm cd : Value) : Tx :=
  Tx.mk prog w K mg mb C A (callEnvC (fdOf (methAt 1) "Whitespace.__init__" pm cd) L 38) n

/-- the loop's turn -/
theorem init_turn {prog : Program} {w : World} {K : Frag} {mg mb : Str → Option Value} {C : Cx} {A : Around} {L : Addr} {n : Nat} {pm cd : Value} (G : GOk mg mb)
    (O : (TI prog w K mg mb C A L n pm cd).Ok) {x : Addr} {y : Str} {st : WS} {c : Nat} (hb : st.b ≤ 200) (hc : st.count.length ≤ 200) {s : Shared} {E : Value → Shared → Prop}
    (F : FB C (TI prog w K mg mb C A L n pm cd).env (("ch", .py (.str ⟨#[c]⟩)) :: rhoS C.s₀.heap x y st) s) {Q : Flow → Shared → Prop}
    (k1 : blank c = true → ∀ s', FB C (TI prog w K mg mb C A L n pm cd).env (rhoS C.s₀.heap x y (stepS st c)) s' → Kn (TI prog w K mg mb C A L n pm cd) s s' → Q .next s')
    (k2 : blank c = false → ∀ s', FB C (TI prog w K mg mb C A L n pm cd).env (rhoS C.s₀.heap x y st) s' → Kn (TI prog w K mg mb C A L n pm cd) s s' → Q .brk s') :
    wpAny (model prog w) A (execs (loopBody (((fBody (methAt 1))[4]?).getD (.Pass ⟨0, 0, 0, 0⟩))) (TI prog w K mg mb C A L n pm cd).env) Q E s := by
  refine ex_if (T := TI prog w K mg mb C A L n pm cd) O F (tv_eqS (ev_name rfl) (ev_name rfl)) (fun e s1 F1 K1 => ?_) (fun e s1 F1 K1 => ?_)
  · have hc32 : c = 32 := by
      have : (⟨#[c]⟩ : Str) = " " := by simpa using e
      have h := congrArg Str.cps this
      exact (Array.singleton_inj.mp h)
    subst hc32
    refine ex_assign (T := TI prog w K mg mb C A L n pm cd) O F1 (ev_add (ev_name rfl) ev_int) (.inl rfl) fun s2 F2 K2 => ?_
    refine ex_assign (T := TI prog w K mg mb C A L n pm cd) O F2 (ev_add (ev_name rfl) ev_int) (.inl rfl) fun s3 F3 K3 => ?_
    refine ex_nil (T := TI prog w K mg mb C A L n pm cd) ?_
    refine ex_nil (T := TI prog w K mg mb C A L n pm cd) (k1 rfl s3 ?_ (((Kn.of (Ke.sw O K1)).trans (.of K2)).trans (.of K3)))
    exact F3.sub (.cons rfl (.cons rfl (.cons rfl (.cons rfl (.cons rfl (.cons rfl (.cons rfl (.cons rfl .nil))))))))
  · have hc32 : ¬ c = 32 := fun z => by subst z; exact absurd e (by decide)
    refine ex_if (T := TI prog w K mg mb C A L n pm cd) O F1 (tv_eqS (ev_name rfl) (ev_name rfl)) (fun e' s2 F2 K2 => ?_) (fun e' s2 F2 K2 => ?_)
    · have hc9 : c = 9 := by
        have : (⟨#[c]⟩ : Str) = "\t" := by simpa using e'
        have h := congrArg Str.cps this
        exact (Array.singleton_inj.mp h)
      subst hc9
      refine ex_assign (T := TI prog w K mg mb C A L n pm cd) O F2 (ev_add (ev_name rfl) ev_int) (.inl rfl) fun s3 F3 K3 => ?_
      refine ex_assign (T := TI prog w K mg mb C A L n pm cd) O F3 (ev_add (ev_name rfl) ev_int) (.inl rfl) fun s4 F4 K4 => ?_
      have kn4 : Kn (TI prog w K mg mb C A L n pm cd) s s4 := ((((Kn.of (Ke.sw O K1)).trans (.of (Ke.sw O K2))).trans (.of K3)).trans (.of K4))
      have tail : ∀ s5 (Q' : Flow → Shared → Prop), (∀ s', FB C (TI prog w K mg mb C A L n pm cd).env (rhoS C.s₀.heap x y (stepS st 9)) s' → Kn (TI prog w K mg mb C A L n pm cd) s s' → Q' .next s') → FB C (TI prog w K mg mb C A L n pm cd).env (("count", .own C.s₀.heap ((padS st).map .int)) :: ("nt", .py (.int (st.nt + 1))) :: ("n", .py (.int (st.n + 1))) :: ("b", .py (.int st.b)) :: ("S", .py (.str " ")) :: ("T", .py (.str "\t")) :: ("self", .val (.ref x)) :: ("ws", .py (.str y)) :: []) s5 → Kn (TI prog w K mg mb C A L n pm cd) s s5 →
          wpAny (model prog w) A (execs ((loopBody (((fBody (methAt 1))[4]?).getD (.Pass ⟨0, 0, 0, 0⟩)) |> fun b => match b with | [.If _ _ [.If _ b _ _] _] => b.drop 3 | _ => [])) (TI prog w K mg mb C A L n pm cd).env) Q' E s5 := by
        intro s5 Q' kk F5 kn5
        have hp : st.b < (padS st).length := by rw [padS_len]; omega
        have hpl : (padS st).length ≤ 201 := by rw [padS_len]; omega
        refine ex_setitem (T := TI prog w K mg mb C A L n pm cd) (x := "count") (ds := (padS st).map .int) (i := st.b) (b := (padS st).getD st.b 0 + 1) O F5 (ev_add (ev_idxL (ds := (padS st).map .int) (d := .int ((padS st).getD st.b 0)) (ev_own (ev_name rfl)) (ev_name rfl) (by omega) (by omega) ?_) ev_int) (ev_name rfl) (by simpa using hp) (by simp; omega) (fun d hd => ?_)
          (ρ' := [("nt", .py (.int (st.nt + 1))), ("n", .py (.int (st.n + 1))), ("S", .py (.str " ")), ("T", .py (.str "\t")), ("self", .val (.ref x)), ("ws", .py (.str y))]) ?_ rfl rfl (fun s6 F6 K6 => ?_)
        · simp [hp]
        · obtain ⟨n, _, rfl⟩ := List.mem_map.mp hd; exact ⟨n, rfl⟩
        · intro p hp
          simp only [List.mem_cons, List.not_mem_nil, or_false] at hp
          rcases hp with rfl | rfl | rfl | rfl | rfl | rfl
          · exact ⟨.int _, rfl⟩
          · exact ⟨.int _, rfl⟩
          · exact ⟨.str _, rfl⟩
          · exact ⟨.str _, rfl⟩
          · exact ⟨.val _, rfl⟩
          · exact ⟨.str _, rfl⟩
        · rw [map_set] at F6
          refine ex_assign (T := TI prog w K mg mb C A L n pm cd) O F6 ev_int (.inl rfl) fun s7 F7 K7 => ?_
          refine ex_nil (T := TI prog w K mg mb C A L n pm cd) (kk s7 ?_ ((kn5.trans K6).trans (.of K7)))
          exact F7.sub (.cons rfl (.cons rfl (.cons rfl (.cons rfl (.cons rfl (.cons rfl (.cons rfl (.cons rfl .nil))))))))
      refine ex_if (T := TI prog w K mg mb C A L n pm cd) O F4 (tv_ge (ev_name rfl) (ev_lenL G (ev_own (ev_name rfl)) (by simp; omega) rfl)) (fun e5 s5 F5 K5 => ?_) (fun e5 s5 F5 K5 => ?_)
      · have hge : st.b ≥ st.count.length := by simpa using e5
        have eb : ((st.b : Int) - (st.count.map PyData.int).length + 1).toNat = st.b - st.count.length + 1 := by rw [List.length_map]; omega
        refine ex_assign (T := TI prog w K mg mb C A L n pm cd) O F5 (ev_addLO (ev_own (ev_name rfl)) (ev_mulL (n := (st.b : Int) - (st.count.map PyData.int).length + 1) (ev_list (ds := [.int 0]) (evs_cons ev_int evs_nil)) (ev_add (ev_sub (ev_name rfl) (ev_lenL G (ev_own (ev_name rfl)) (by simp; omega) rfl)) ev_int) (by rw [List.length_map]; omega) (by rw [eb]; simp; omega)) (by rw [eb]; simp [sizeLine_eq]; omega)) (.inl rfl) fun s6 F6 K6 => ?_
        refine ex_nil (T := TI prog w K mg mb C A L n pm cd) (tail s6 _ (fun s' F' K' => ex_nil (T := TI prog w K mg mb C A L n pm cd) (ex_nil (T := TI prog w K mg mb C A L n pm cd) (k1 rfl s' F' K'))) ?_ ((kn4.trans (.of (Ke.sw O K5))).trans (.of K6)))
        rw [eb, map_rep] at F6
        have : padS st = st.count ++ List.replicate (st.b - st.count.length + 1) 0 := by unfold padS; rw [if_pos hge]
        rw [this]; exact F6.sub (.cons rfl (.cons rfl (.cons rfl (.cons rfl (.cons rfl (.cons rfl (.cons rfl (.cons rfl .nil))))))))
      · have hge : ¬ st.b ≥ st.count.length := by simpa using e5
        refine ex_nil (T := TI prog w K mg mb C A L n pm cd) (tail s5 _ (fun s' F' K' => ex_nil (T := TI prog w K mg mb C A L n pm cd) (ex_nil (T := TI prog w K mg mb C A L n pm cd) (k1 rfl s' F' K'))) ?_ (kn4.trans (.of (Ke.sw O K5))))
        have : padS st = st.count := by unfold padS; rw [if_neg hge]
        rw [this]
        exact F5.sub (.cons rfl (.cons rfl (.cons rfl (.cons rfl (.cons rfl (.cons rfl (.cons rfl (.cons rfl .nil))))))))
    · have hc9 : ¬ c = 9 := fun z => by subst z; exact absurd e' (by decide)
      refine wpAny_execs_cons (wpAny_Break ?_)
      refine k2 (by simp [blank, hc32, hc9]) s2 ?_ (((Kn.of (Ke.sw O K1)).trans (.of (Ke.sw O K2))))
      exact F2.sub (.cons rfl (.cons rfl (.cons rfl (.cons rfl (.cons rfl (.cons rfl (.cons rfl (.cons rfl .nil))))))))
end Mine

end
section
set_option Elab.async false
set_option maxRecDepth 100000
set_option autoImplicit false
set_option linter.unusedVariables false
set_option linter.unusedSimpArgs false
namespace Mine
open PySem PySem.W PyProof.Rows PySem.Calls PySem.SeqAt

theorem tc_weight (a : Addr) (args : List Value) : (Code.builtin "type.__call__" ⟨.ref a :: args, []⟩).weight = 1 := rfl
theorem tc_units (a : Addr) (args : List Value) : (Code.builtin "type.__call__" ⟨.ref a :: args, []⟩).cUnits = 1 := rfl

/-- the body of __init__ -/
theorem init_body {prog : Program} {w : World} {K : Frag} {mg mb : Str → Option Value} {C : Cx} {A : Around} {L : Addr} {n : Nat} {pm cd : Value} (G : GOk mg mb) (H : ClsOk K)
    (O : (TI prog w K mg mb C A L n pm cd).Ok) {x dx : Addr} {y : Str} (hy : y.length ≤ 200) {s : Shared} {E : Value → Shared → Prop} {Q : Flow → Shared → Prop}
    (F : FB C (TI prog w K mg mb C A L n pm cd).env [("self", .val (.ref x)), ("ws", .py (.str y))] s)
    (hx : C.s₀.heap.get? x = some (instObj 83 dx)) (hdx : s.heap.get? dx = some (dictOf [] 0)) (hX : C.X dx) (hxX : ¬ C.X x) (h0 : C.s₀.heap.get? dx = none) (hL : L ≠ dx)
    (k : ∀ s' es m vn t, St C s' → s'.heap.get? dx = some (dictOf es m) → getL (Str.ofString "norm") es = some (some vn) → Rd C.X s'.heap vn (.tuple [.tuple ((wsOf y).count.map .int), .int (wsOf y).b]) → getL (Str.ofString "nt") es = some (some (.int (wsOf y).nt t)) →
      (∀ f ∈ [Str.ofString "indent_level", Str.ofString "equal", Str.ofString "not_equal_witness", Str.ofString "longest_run_of_spaces"], getL f es = some none) → Q .next s') :
    wpAny (model prog w) A (execs (fBody (methAt 1)) (TI prog w K mg mb C A L n pm cd).env) Q E s := by
  have hc : ∀ y c, (TI prog w K mg mb C A L n pm cd).env.cells.lookup y = some c → c ≠ dx := fun y c h => by cases h
  refine ex_setattr (T := TI prog w K mg mb C A L n pm cd) H O F (x := x) (dx := dx) (es := []) (n := 0) (es' := fun v t => [⟨PyData.keyHash w.params "raw", .str "raw" t, v⟩]) (d := .py (.str y)) (ev_name rfl) (ev_name rfl) hx hdx H.raw hX h0 hL hc rfl (fun v t => rfl) (fun v t => by simp) fun v t s1 F1 R1 hd1 hk1 => ?_
  obtain ⟨tv, rfl⟩ := Rd.str_inv R1
  refine ex_unpack2s (T := TI prog w K mg mb C A L n pm cd) (d1 := .str " ") (d2 := .str "\t") O F1 (ev_tuple (ds := [.str " ", .str "\t"]) (evs_cons (ev_clsS H (ev_glob G.ws rfl) H.s) (evs_cons (ev_clsS H (ev_glob G.ws rfl) H.t) evs_nil))) (.inl rfl) (.inl rfl) fun s2 F2 K2 => ?_
  refine ex_assign (T := TI prog w K mg mb C A L n pm cd) O F2 ev_nilO (.inl rfl) fun s3 F3 K3 => ?_
  refine ex_assign3 (T := TI prog w K mg mb C A L n pm cd) O F3 ev_int (.inl rfl) (.inl rfl) (.inl rfl) fun s4 F4 K4 => ?_
  have hnd : ¬ SW (TI prog w K mg mb C A L n pm cd) dx := by
    rintro ⟨_, z | ⟨y, z⟩⟩
    · exact hL z.symm
    · cases z
  have hd4 : s4.heap.get? dx = some (dictOf [⟨PyData.keyHash w.params "raw", .str "raw" t, .str y tv⟩] (putN "raw" [] 0)) := K4.heap _ _ hnd (K3.heap _ _ hnd (K2.heap _ _ hnd hd1))
  generalize hes : ([⟨PyData.keyHash w.params "raw", .str "raw" t, .str y tv⟩] : List DictEntry) = es1 at hd4
  generalize hn1 : putN "raw" [] 0 = n1 at hd4
  clear hd1 hk1
  have F4' : FB C (TI prog w K mg mb C A L n pm cd).env (rhoS C.s₀.heap x y ⟨[], 0, 0, 0⟩) s4 :=
    F4.sub (.cons rfl (.cons rfl (.cons rfl (.cons rfl (.cons rfl (.cons rfl (.cons rfl (.cons rfl .nil))))))))
  -- what follows the loop
  have rest : ∀ (st : WS) s5, st = wsOf y → st.count.length ≤ 200 → FB C (TI prog w K mg mb C A L n pm cd).env (rhoS C.s₀.heap x y st) s5 → s5.heap.get? dx = some (dictOf es1 n1) →
      wpAny (model prog w) A (execs ((fBody (methAt 1)).drop 5) (TI prog w K mg mb C A L n pm cd).env) Q E s5 := by
    intro st s5 hst hlen F5 hd5
    subst hes
    refine ex_setattr (T := TI prog w K mg mb C A L n pm cd) H O F5 (x := x) (dx := dx) (es' := fun v t2 => [⟨PyData.keyHash w.params "raw", .str "raw" t, .str y tv⟩, ⟨PyData.keyHash w.params "n", .str "n" t2, v⟩]) (d := .py (.int st.n)) (ev_name rfl) (ev_name rfl) hx hd5 H.n hX h0 hL hc rfl (fun v t => rfl) (fun v t => by simp) fun v2 t2 s6 F6 R6 hd6 hk6 => ?_
    refine ex_setattr (T := TI prog w K mg mb C A L n pm cd) H O F6 (x := x) (dx := dx) (es' := fun v t3 => [⟨PyData.keyHash w.params "raw", .str "raw" t, .str y tv⟩, ⟨PyData.keyHash w.params "n", .str "n" t2, v2⟩, ⟨PyData.keyHash w.params "nt", .str "nt" t3, v⟩]) (d := .py (.int st.nt)) (ev_name rfl) (ev_name rfl) hx hd6 H.nt hX h0 hL hc rfl (fun v t => rfl) (fun v t => by simp) fun v3 t3 s7 F7 R7 hd7 hk7 => ?_
    obtain ⟨tnt, rfl⟩ := Rd.int_inv R7
    refine ex_setattr (T := TI prog w K mg mb C A L n pm cd) H O F7 (x := x) (dx := dx) (es' := fun v t4 => [⟨PyData.keyHash w.params "raw", .str "raw" t, .str y tv⟩, ⟨PyData.keyHash w.params "n", .str "n" t2, v2⟩, ⟨PyData.keyHash w.params "nt", .str "nt" t3, .int st.nt tnt⟩, ⟨PyData.keyHash w.params "norm", .str "norm" t4, v⟩]) (d := .py (.tuple [.tuple (st.count.map .int), .int st.b]))
      (ev_name rfl) (ev_tuple (ds := [.tuple (st.count.map .int), .int st.b]) (evs_cons (ev_bcall (ev_bui G.tuple.1 G.tuple.2 rfl) (fun a h => by cases h) (evs_cons (ev_own (ev_name rfl)) evs_nil) (fun O s vs F r => op_tuple O F r (by simp; omega))) (evs_cons (ev_name rfl) evs_nil)))
      hx hd7 H.norm hX h0 hL hc rfl (fun v t => rfl) (fun v t => by simp) fun v4 t4 s8 F8 R8 hd8 hk8 => ?_
    refine ex_setattr (T := TI prog w K mg mb C A L n pm cd) H O F8 (x := x) (dx := dx) (es' := fun v t5 => [⟨PyData.keyHash w.params "raw", .str "raw" t, .str y tv⟩, ⟨PyData.keyHash w.params "n", .str "n" t2, v2⟩, ⟨PyData.keyHash w.params "nt", .str "nt" t3, .int st.nt tnt⟩, ⟨PyData.keyHash w.params "norm", .str "norm" t4, v4⟩, ⟨PyData.keyHash w.params "is_simple", .str "is_simple" t5, v⟩]) (d := .py (.bool (decide (((st.count.map PyData.int).length : Int) ≤ 1))))
      (ev_name rfl) (ev_le (ev_lenL G (ev_own (ev_name rfl)) (by simp; omega) rfl) ev_int)
      hx hd8 H.simp hX h0 hL hc rfl (fun v t => rfl) (fun v t => by simp) fun v5 t5 s9 F9 R9 hd9 hk9 => ?_
    refine ex_nil (T := TI prog w K mg mb C A L n pm cd) ?_
    have R8' : Rd C.X s9.heap v4 (.tuple [.tuple (st.count.map .int), .int st.b]) := Rd.mono (.of fun b o n q => hk9 b o (fun z => n (z ▸ hX)) (fun z => n (z ▸ O.wx _ O.wl)) q) R8
    refine k s9 _ _ v4 tnt F9.toSt hd9 rfl (hst ▸ R8') (hst ▸ rfl) ?_
    intro f hf
    simp only [List.mem_cons, List.not_mem_nil, or_false] at hf
    rcases hf with rfl | rfl | rfl | rfl <;> rfl
  have hyl : y.cps.toList.length ≤ 200 := by rw [Array.length_toList]; exact hy
  have hlen : (charsOf y).length = y.cps.toList.length := by simp [charsOf]
  have bnd : ∀ i, (foldS (y.cps.toList.take i)).b ≤ 200 ∧ (foldS (y.cps.toList.take i)).count.length ≤ 200 := fun i => by
    have := foldS_bound (y.cps.toList.take i) ⟨[], 0, 0, 0⟩ 0 (Nat.le_refl _) (Nat.le_refl _)
    have h2 : (y.cps.toList.take i).length ≤ 200 := by rw [List.length_take]; omega
    unfold foldS; omega
  refine ex_forS (T := TI prog w K mg mb C A L n pm cd) (y := y) (fun i => rhoS C.s₀.heap x y (foldS (y.cps.toList.take i))) (fun i h => (∀ c ∈ y.cps.toList.take i, blank c = true) ∧ h.get? dx = some (dictOf es1 n1)) O F4' ⟨fun c h => by simp at h, hd4⟩
    (fun i h h' g hk => ⟨g.1, hk _ _ hX hnd g.2⟩) (fun Q E kk => ?_) (.inl rfl) (fun i d hd s5 E' F5 g5 => ?_) (fun s5 F5 g5 => ?_)
  · subst hes
    refine attr_mine (T := TI prog w K mg mb C A L n pm cd) H O F4' (x := x) (dx := dx) (v := .str y tv) (ev_name rfl) hx hL hd4 H.raw rfl rfl fun s5 F5 K5 => ?_
    exact iter_str (T := TI prog w K mg mb C A L n pm cd) O F5 K5 kk
  · obtain ⟨c, hcc, rfl⟩ : ∃ c, y.cps.toList[i]? = some c ∧ d = .str ⟨#[c]⟩ := by
      unfold charsOf at hd
      rw [List.getElem?_map] at hd
      obtain ⟨c, h1, h2⟩ := Option.map_eq_some_iff.mp hd
      exact ⟨c, h1, h2.symm⟩
    refine init_turn G O (bnd i).1 (bnd i).2 F5 (fun hb s6 F6 K6 => ?_) (fun hb s6 F6 K6 => ?_)
    · refine ⟨foldS_succ hcc ▸ F6, ⟨fun c' hc' => ?_, K6 _ _ hnd (fun z => absurd (Value.type.inj z) (by decide)) g5.2⟩, K6⟩
      rw [List.take_add_one, hcc, Option.toList_some] at hc'
      rcases List.mem_append.mp hc' with h | h
      · exact g5.1 c' h
      · rw [List.mem_singleton.mp h]; exact hb
    · refine rest _ s6 ?_ (bnd i).2 F6 (K6 _ _ hnd (fun z => absurd (Value.type.inj z) (by decide)) g5.2)
      exact (runS_stop _ i _ g5.1 fun c' hc' => by rw [hcc] at hc'; cases hc'; exact hb).symm
  · refine rest _ s5 ?_ (bnd _).2 F5 g5.2
    exact (runS_stop _ _ _ g5.1 fun c' hc' => by rw [hlen, List.getElem?_eq_none (Nat.le_refl _)] at hc'; cases hc').symm

theorem nat_ne1 (d : Nat) : d + 1 ≠ d := by omega
theorem nat_ne2 (d : Nat) : d + 2 ≠ d := by omega
theorem nat_ne12 (d : Nat) : d + 1 ≠ d + 2 := by omega
theorem nat_lt3 {a d : Nat} (h : a < d) : a ≠ d ∧ a ≠ d + 1 ∧ a ≠ d + 2 := by omega
/-- Whitespace(y) -/
theorem ct_ws {prog : Program} {w : World} {K : Frag} {mg mb : Str → Option Value} (G : GOk mg mb) (H : ClsOk K) (HF : FnAt K 38 (methAt 1) "Whitespace.__init__") (y : Str) (hy : y.length ≤ 200) :
    CT prog w K mg mb 3 (.ref 83) [.py (.str y)] (.ws (wsOf y).count (wsOf y).b (wsOf y).nt) := by
  intro X A s vs Q E M0 A0 hbare hXs hr k
  obtain ⟨v, rfl, r0⟩ := hr.one
  obtain ⟨tv, rfl⟩ := Rd.str_inv r0
  obtain ⟨pm, cd, HO⟩ := okInit HF
  obtain ⟨h, g, d, tk, os⟩ := s
  have M1 : K.In h := M0.kin
  refine wpAny_call (make_core (makes_of M1 H.makes) (looks_findIn M1 H.init) (fun self => bind_fn M1 self H.initF) (.inl rfl) ?_)
  generalize hdx : h.objs.size = dx
  generalize hh1 : (h.push emptyDict).push (instObj 83 dx) = h1
  have hst1 : h.StaysIn h1 := fun b o e => by rw [← hh1]; exact Heap.get?_push_of_some _ (Heap.get?_push_of_some _ e)
  have hgx : h1.get? (dx + 1) = some (instObj 83 dx) := by subst hh1 hdx; heap_get
  have hgd : h1.get? dx = some (dictOf [] 0) := by subst hh1 hdx; heap_get
  have hn0 : h.get? dx = none := hdx ▸ size_none h
  have hn1 : h.get? (dx + 1) = none := by
    cases q : h.get? (dx + 1) with
    | none => rfl
    | some o => have := Heap.lt_size q; rw [hdx] at this; exact absurd this (Nat.not_lt.mpr (Nat.le_succ _))
  have hsz : h1.objs.size = dx + 2 := by subst hh1; rw [Heap.size_push, Heap.size_push, hdx]
  have hide : h.StaysIn (h1.hide dx) := fun b o e => by
    have z : b ≠ dx := fun z => by rw [z, hn0] at e; cases e
    rw [Heap.hide_ne h1 z]; exact hst1 b o e
  have M0' : Md K mg mb h1 := M0.keeps hst1
  obtain ⟨o, ho, hd⟩ := HO.at_
  have hdep := A0.depth
  have hun := A0.units
  refine codeAny_call_cells (s := ⟨h1, g, d, tk, os⟩) (binds := [(("self" : Str), Value.ref (dx + 1)), ("ws", Value.str y tv)]) ?_ (M0'.kin _ _ ho) hd M0'.nolim (codeRec_of M0'.kin HO.code) HO.body (HO.binds _ rfl) HO.closure ?_ (fun s₁ I => ?_) HO.co HO.gen HO.kind
  · show A.depth + _ < recursionLimit
    rw [tc_weight]; omega
  · intro z hz
    rcases HO.kinds _ (List.of_mem_zip (show z ∈ [("self" : Str), "ws"].zip [Value.ref (dx + 1), Value.str y tv] from hz)).1 with q | q
    · exact .inl q
    · exact .inr ⟨q, lookup_cells _ _ _ q⟩
  · obtain ⟨h₁, tk', es⟩ := I.toInCall.same
    dsimp only at I es
    rw [hsz] at I ⊢
    let A' := (A.under (.builtin "type.__call__" ⟨[.ref 83, .str y tv], []⟩)).deeper (callEnvC (fdOf (methAt 1) "Whitespace.__init__" pm cd) (dx + 2) 38)
    let C : Cx := ⟨fun a => X a ∨ a = dx ∨ a = dx + 2, fun a => a = dx + 2, ⟨h1.hide dx, g, d, tk, os⟩⟩
    have hCw : ∀ a, C.W a → C.s₀.heap.get? a = none := fun a ha => by
      obtain rfl : a = dx + 2 := ha
      show (h1.hide dx).get? (dx + 2) = none
      rw [Heap.hide_ne h1 (nat_ne2 dx)]
      cases q : h1.get? (dx + 2) with
      | none => rfl
      | some o => have := Heap.lt_size q; rw [hsz] at this; exact absurd this (Nat.lt_irrefl _)
    have O : (TI prog w K mg mb C A' (dx + 2) 0 pm cd).Ok :=
      { md := M0.keeps hide, kind := rfl, glob := rfl, bui := rfl, wl := rfl, wx := fun a ha => .inr (.inr ha), wnew := hCw
        cne := fun x c hc => by cases hc
        capart := fun x y c hc => by cases hc
        cx := fun x c hc => by cases hc
        handled := A0.handled
        depth := by show A.depth + _ + 1 + 0 < recursionLimit; rw [tc_weight]; omega
        units := by show A.units + _ + 3 + 10 * 0 + 100 < cLine; rw [tc_units]; omega }
    have hkeep : ∀ b o, h1.get? b = some o → s₁.heap.get? b = some o := I.toInCall.keep
    have hX1 : ∀ a, X a → a ≠ dx ∧ a ≠ dx + 1 ∧ a ≠ dx + 2 := fun a ha => by
      obtain ⟨o, ho⟩ := hXs a ha
      have := Heap.lt_size ho
      dsimp only at this
      rw [hdx] at this
      exact nat_lt3 this
    have F : FB C (TI prog w K mg mb C A' (dx + 2) 0 pm cd).env [("self", .val (.ref (dx + 1))), ("ws", .py (.str y))] s₁ := by
      refine ⟨⟨fun b o e => ?_, by rw [es], by rw [es], by rw [es]; exact fun _ _ e => e, by rw [es]; exact hbare, fun a ha => ?_⟩, (fun x c hc => by cases hc), _, I.toInCall.ns, fun z d hz => ?_⟩
      · have z : b ≠ dx := fun z => by rw [z] at e; rw [show (h1.hide dx).get? dx = none from Heap.hide_self _ _] at e; cases e
        exact hkeep b o (by rw [← Heap.hide_ne h1 z]; exact e)
      · rcases ha with ha | ha | ha
        · obtain ⟨o, ho⟩ := hXs a ha; exact ⟨o, hkeep _ _ (hst1 _ _ ho)⟩
        · exact ⟨_, hkeep _ _ (ha ▸ hgd)⟩
        · obtain ⟨o', _, _, h', _⟩ := I.toInCall.ns; exact ⟨o', ha ▸ h'⟩
      · rw [List.lookup_cons] at hz
        split at hz
        · rename_i q
          cases hz
          obtain rfl : z = "self" := by simpa using q
          exact ⟨.ref (dx + 1), .inl ⟨rfl, rfl⟩, rfl⟩
        · rw [List.lookup_cons] at hz
          split at hz
          · rename_i q
            cases hz
            obtain rfl : z = "ws" := by simpa using q
            exact ⟨.str y tv, .inl ⟨rfl, rfl⟩, Rd.str _ _⟩
          · cases hz
    refine init_body (A := A') (L := dx + 2) G H O (x := dx + 1) (dx := dx) hy F ?_ (hkeep _ _ hgd) (.inr (.inl rfl)) ?_ (Heap.hide_self _ _) (nat_ne2 dx) fun s' es m vn t S hD hn hR hnt hme => ?_
    · show (h1.hide dx).get? (dx + 1) = _
      rw [Heap.hide_ne h1 (nat_ne1 dx)]; exact hgx
    · rintro (q | q | q)
      · exact (hX1 _ q).2.1 rfl
      · exact nat_ne1 dx q
      · exact nat_ne12 dx q
    · refine ⟨rfl, ?_⟩
      refine k _ s' ⟨fun b o e => S.old b o (hide b o e), S.os, S.drawn, S.gens, S.bare⟩ ⟨dx + 1, dx, #[], es, m, vn, t, rfl, fun q => (hX1 _ q).2.1 rfl, fun q => (hX1 _ q).1 rfl, ?_, hD, hn, hR.vol (fun a o _ ha => .inl ha), hnt, hme⟩
      exact S.old _ _ (by show (h1.hide dx).get? (dx + 1) = _; rw [Heap.hide_ne h1 (nat_ne1 dx)]; exact hgx)
end Mine

end
section
set_option Elab.async false
set_option maxRecDepth 100000
set_option autoImplicit false
set_option linter.unusedVariables false
set_option linter.unusedSimpArgs false
namespace Mine
open PySem PySem.W PyProof.Rows PySem.Calls PySem.SeqAt

section
variable {T : Tx} {ρ : Rho}

theorem bits_small {a : Int} (h : a.natAbs < 2 ^ 62) : Builtin.Int.intBits a ≤ 64 := by
  unfold Builtin.Int.intBits
  split
  · omega
  · rename_i q
    have hb : a.natAbs ≠ 0 := by simpa using q
    have := (Nat.log2_lt hb).mpr h
    omega
theorem mul_small {a b : Int} (h : a.natAbs < 2 ^ 62) : IntMulOk a b := IntMulOk.of_left (bits_small h)

theorem ev_idxT {value slice : Expr} {pos : Pos} {ds : List PyData} {k : Int} {d : PyData} (h1 : EV T ρ value (.py (.tuple ds))) (h2 : EV T ρ slice (.py (.int k))) (h0 : 0 ≤ k) (hk : k < 2 ^ 62) (hd : ds[k.toNat]? = some d) (hs : PlainSub slice := by intro _ _; rfl) : EV T ρ (.Subscript value slice pos) (.py d) :=
  ev_sub_ h1 h2 fun O s v1 v2 F r1 r2 => by
    obtain ⟨x, us, rfl, hx, hl, ra⟩ := Rd.tuple_inv r1; obtain ⟨u, rfl⟩ := Rd.int_inv r2
    have hlt : k.toNat < us.length := by rw [ra.1]; exact (List.getElem?_eq_some_iff.mp hd).1
    intro Q E kk
    have hT : s.TypeIs (.ref x) "tuple" := by obtain ⟨o, ho, hc, _⟩ := hl; exact ⟨o, ho, hc⟩
    refine tail_any hT PySem.F.slot_tuple_getitem.lookup (PyProof.Rows.getItem_tuple (j := k.toNat) (x := us[k.toNat]) hl (by omega) (by omega) ?_ (by simp [hlt]) (kk _ s.heap s.toks (.refl _ _) ?_)) (hs _ _)
    · unfold seqIndex?
      have : k.toNat < us.toArray.size := by rw [List.size_toArray]; exact hlt
      simp; omega
    · exact ra.2 _ _ _ (by simp [hlt]) hd

/-! a list of the function's own that is appended to -/
abbrev Tx.own (T : Tx) (D : Addr) : Tx := { T with C := T.C.own (· = D) }
theorem Tx.Ok.own (O : T.Ok) {D : Addr} (h : T.C.s₀.heap.get? D = none) : (T.own D).Ok := { O.toEOk.own (Y := (· = D)) (fun a ha => (show a = D from ha) ▸ h), O.toAOk with }
theorem STO.own {x : Str} {D : Addr} (h : STO T x) : STO (T.own D) x := by
  rcases h with h | ⟨h, c, hc, hw⟩
  · exact .inl h
  · exact .inr ⟨h, c, hc, .inl hw⟩

structure Grows (T : Tx) (D : Addr) (ds : List PyData) (h : Heap) : Prop where
  ex : ∃ vs : List Value, h.PlainList D vs.toArray ∧ RdAll (T.own D).C.X h vs ds
theorem Grows.keeps {D : Addr} {ds : List PyData} {h h' : Heap} (g : Grows T D ds h) (hD : ∀ o, h.get? D = some o → h'.get? D = some o) (k : Kx (T.own D).C.X h h') : Grows T D ds h' := by
  obtain ⟨vs, hp, hr⟩ := g.ex
  exact ⟨vs, hp.at hD, hr.mono k⟩

theorem ex_newlist {x : Str} {px lp pos : Pos} {rest : List Stmt} {Q : Flow → Shared → Prop} {E : Value → Shared → Prop} {s : Shared} (O : T.Ok) (F : FB T.C T.env ρ s) (hx : STO T x)
    (k : ∀ D s', (T.own D).Ok → ¬ T.C.X D → T.env.locals ≠ D → (∀ y c, T.env.cells.lookup y = some c → c ≠ D) → FB (T.own D).C T.env ((x, .val (.ref D)) :: ρ) s' → Grows T D [] s'.heap → Kw (SW T) s s' → wpAny (model T.prog T.w) T.A (execs rest T.env) Q E s')
    (hs : swapsWith (.List [] lp) (some (.Name x px)) pos.line T.env = pure false := by rfl) : wpAny (model T.prog T.w) T.A (execs (.Assign [.Name x px] (.List [] lp) pos :: rest) T.env) Q E s := by
  refine wpAny_execs_cons (wpAny_Assign_Name ?_ hs)
  refine List_ (evs_nil O lp s _ E F fun vs s1 F1 K1 R1 => ?_)
  have hvs : vs = [] := by cases vs with | nil => rfl | cons v vs => exact R1.elim
  subst hvs
  refine wpAny_newObj_type ?_ (by show (#[] : Array Value).size ≤ sizeLine; decide)
  have hnX : ¬ T.C.X s1.heap.objs.size := new_off F1
  have h0 := new_s0 F1
  have O' := O.own h0
  have g : Gb s1.heap.objs.size s1 { s1 with heap := s1.heap.push { cls := .type "list", dict := none, data := .seq ([] : List Value).toArray } } := ⟨fun b o _ e => Heap.get?_push_of_some _ e, rfl, rfl, fun _ _ e => e, id⟩
  have F2 := F1.fresh (C' := (T.own s1.heap.objs.size).C) O.toEOk (· = s1.heap.objs.size) rfl (fun a => Iff.rfl) (fun a ha => (show a = _ from ha) ▸ size_none _) (fun a ha => (show a = _ from ha) ▸ ⟨_, Heap.get?_push_size _ rfl⟩) hnX h0 (fun o ho => by rw [size_none] at ho; cases ho) g
  refine st_name (T := T.own s1.heap.objs.size) O' F2 (d := .val (.ref s1.heap.objs.size)) rfl (fun s3 F3 K3 => ?_) hx.own
  have hLD : T.env.locals ≠ s1.heap.objs.size := fun z => hnX (z ▸ O.wx _ O.wl)
  have hcD : ∀ y c, T.env.cells.lookup y = some c → c ≠ s1.heap.objs.size := fun y c hc z => hnX (z ▸ O.cx y c hc)
  have hnS : ¬ SW (T.own s1.heap.objs.size) s1.heap.objs.size := by
    rintro ⟨_, z | ⟨y, z⟩⟩
    · exact hLD z.symm
    · exact hcD _ _ z rfl
  refine k _ s3 O' hnX hLD hcD F3 ⟨[], ⟨0, K3.heap _ _ hnS (Heap.get?_push_size _ rfl)⟩, .nil⟩ ⟨fun b o z e => ?_, fun i y e => K3.gens i y (K1.gens i y e)⟩
  refine K3.heap b o (fun q => z ⟨?_, q.2⟩) (Heap.get?_push_of_some _ (K1.heap b o (fun q => z (q ▸ ⟨O.wl, .inl rfl⟩)) e))
  rcases q.1 with w | w
  · exact w
  · exfalso
    rcases q.2 with y | ⟨y, hy⟩
    · exact hLD ((show b = _ from y) ▸ (show b = _ from w))
    · exact hcD _ _ hy w

theorem ex_append {x : Str} {px ap cp pos : Pos} {e : Expr} {rest : List Stmt} {D : Addr} {ds : List PyData} {d : PyData} {Q : Flow → Shared → Prop} {E : Value → Shared → Prop} {s : Shared} (O : (T.own D).Ok) (hLD : T.env.locals ≠ D) (hcD : ∀ y c, T.env.cells.lookup y = some c → c ≠ D)
    (F : FB (T.own D).C T.env ρ s) (g : Grows T D ds s.heap) (hz : ds.length ≤ sizeLine) (hx : EV (T.own D) ρ (.Name x px) (.val (.ref D))) (he : ∀ s', FB (T.own D).C T.env ρ s' → Grows T D ds s'.heap → ∀ Q E, (∀ v s'', FB (T.own D).C T.env ρ s'' → Ke T.env.locals s' s'' → Rd (T.own D).C.X s''.heap v d → Q v s'') → wpAny (model T.prog T.w) T.A (eval e T.env) Q E s')
    (k : ∀ s', FB (T.own D).C T.env ρ s' → Grows T D (ds ++ [d]) s'.heap → Kw (T.own D).C.W s s' → wpAny (model T.prog T.w) T.A (execs rest T.env) Q E s')
    (hi : interactive T.env = false := by rfl) (hs : swapsWith (.Call (.Attribute (.Name x px) "append" ap) [e] [] cp) none pos.line T.env = pure false := by rfl)
    (hb : attributeBase (.Name x px) "append" T.env (eval (.Name x px) T.env) = eval (.Name x px) T.env := by rfl) (hline : (ap.endLine == cp.line) = true := by rfl)
    (hf : methodCallForm ([e].length + ([] : List Keyword).length) (backTo cp (starEach [e] T.env)) (backToKw cp (keywordEach [] T.env)) = true := by rfl) (hse : starEach [e] T.env = [(false, eval e T.env)] := by rfl) :
    wpAny (model T.prog T.w) T.A (execs (.Expr (.Call (.Attribute (.Name x px) "append" ap) [e] [] cp) pos :: rest) T.env) Q E s := by
  refine wpAny_execs_cons (wpAny_Expr ?_ hi hs)
  rw [eval_mcall, hb]
  refine wpAny_bind (hx O s _ E F fun v s1 F1 K1 R1 => wpAny_bind (wpAny_standAt ?_))
  obtain rfl : v = .ref D := R1
  have hpos : methodCallPos true (.Name x px) T.env ap cp = pure cp := by unfold methodCallPos; simp [hline]
  have kD : ∀ {s s' : Shared}, Ke T.env.locals s s' → ∀ o, s.heap.get? D = some o → s'.heap.get? D = some o := fun K o q => K.heap D o hLD.symm q
  have g1 := g.keeps (kD K1) (K1.kx (O.wx _ O.wl))
  unfold methodCall
  rw [hf]
  obtain ⟨vs1, ⟨n1, hp1⟩, hr1⟩ := g1.ex
  refine wpAny_bind (wpAny_holding (getMethod_list_append hp1 rfl rfl ?_))
  refine wpAny_bind (wpAny_of_eq hpos ?_)
  have hp : (starEach [e] T.env).any (·.1) = false := by rw [hse]; rfl
  refine callWith_plain (plain_any hp) (fun a h => by cases h) (evalArgs_of hp ?_)
  rw [hse]
  refine spliced_cons ?_
  show wpAny _ _ (eval e T.env) _ _ _
  refine he s1 F1 g1 _ _ fun v s2 F2 K2 R2 => spliced_nil ?_
  have g2 := g1.keeps (kD K2) (K2.kx (O.wx _ O.wl))
  obtain ⟨vs2, hp2, hr2⟩ := g2.ex
  have hX : (T.own D).C.X D := .inr rfl
  refine wpAny_list_append_plain hp2 (fun h' hp3 hs3 => ?_) (by rw [List.size_toArray, hr2.1]; exact hz)
  have kx : Kx (T.own D).C.X s2.heap h' := .of fun b o n q => hs3.extBut b o (fun z => n (z ▸ hX)) q
  refine k _ (F2.change (D := D) hX (O.wnew D (.inr rfl)) hLD hcD hs3 (by obtain ⟨n, e⟩ := hp3; exact ⟨_, e⟩)) ⟨vs2 ++ [v], by simpa using hp3, (hr2.mono kx).append (.cons (R2.mono kx) .nil)⟩ ⟨fun b o z q => ?_, fun i y e => K2.gens i y (K1.gens i y e)⟩
  exact hs3.extBut b o (fun w => z (.inr w)) (K2.heap b o (fun w => z (.inl (w ▸ (show T.C.W T.env.locals from by rcases O.wl with q | q; exact q; exact absurd q hLD)))) (K1.heap b o (fun w => z (.inl (w ▸ (show T.C.W T.env.locals from by rcases O.wl with q | q; exact q; exact absurd q hLD)))) q))
end
end Mine

end
section
set_option Elab.async false
set_option maxRecDepth 100000
set_option autoImplicit false
set_option linter.unusedVariables false
set_option linter.unusedSimpArgs false
namespace Mine
open PySem PySem.W PyProof.Rows PySem.Calls PySem.SeqAt

theorem okLong {K : Frag} (H : FnAt K 45 (methAt 2) "Whitespace.longest_run_of_spaces") : ∃ pm cd, FnOk K 45 (fdOf (methAt 2) "Whitespace.longest_run_of_spaces" pm cd) ["self"] (fBody (methAt 2)) :=
  H.ok _ rfl rfl rfl (fun pm cd => one_arg rfl fun a => rfl) (by decide) (by intro x hx; rw [List.mem_singleton.mp hx]; exact .inl rfl)
theorem okIndent {K : Frag} (H : FnAt K 52 (methAt 3) "Whitespace.indent_level") : ∃ pm cd, FnOk K 52 (fdOf (methAt 3) "Whitespace.indent_level" pm cd) ["self", "tabsize"] (fBody (methAt 3)) :=
  H.ok _ rfl rfl rfl (fun pm cd => two_args rfl fun a b => rfl) (by decide) (by intro x hx; rcases List.mem_cons.mp hx with rfl | hx; exact .inl rfl; rw [List.mem_singleton.mp hx]; exact .inl rfl)
theorem okEqual {K : Frag} (H : FnAt K 59 (methAt 4) "Whitespace.equal") : ∃ pm cd, FnOk K 59 (fdOf (methAt 4) "Whitespace.equal" pm cd) ["self", "other"] (fBody (methAt 4)) :=
  H.ok _ rfl rfl rfl (fun pm cd => two_args rfl fun a b => rfl) (by decide) (by intro x hx; rcases List.mem_cons.mp hx with rfl | hx; exact .inl rfl; rw [List.mem_singleton.mp hx]; exact .inl rfl)
theorem okWit {K : Frag} (H : FnAt K 66 (methAt 5) "Whitespace.not_equal_witness") : ∃ pm cd, FnOk K 66 (fdOf (methAt 5) "Whitespace.not_equal_witness" pm cd) ["self", "other"] (fBody (methAt 5)) :=
  H.ok _ rfl rfl rfl (fun pm cd => two_args rfl fun a b => rfl) (by decide) (by intro x hx; rcases List.mem_cons.mp hx with rfl | hx; exact .inl rfl; rw [List.mem_singleton.mp hx]; exact .inl rfl)

variable {prog : Program} {w : World} {K : Frag} {mg mb : Str → Option Value}

/-! longest_run_of_spaces -/
def longD (c : List Int) (b : Int) : Int := max ((c.length : Int) - 1) b
theorem ct_long (G : GOk mg mb) (H : ClsOk K) (HF : FnAt K 45 (methAt 2) "Whitespace.longest_run_of_spaces") (c : List Int) (b nt : Int) (hc : c.length ≤ 1000) :
    CT prog w K mg mb 1 (.ref 45) [.ws c b nt] (.py (.int (longD c b))) := by
  obtain ⟨pm, cd, HO⟩ := okLong HF
  refine ct_def HO rfl fun X A L s₀ s E O F => ?_
  let T := Tx.mk prog w K mg mb (cxOf X (fdOf (methAt 2) "Whitespace.longest_run_of_spaces" pm cd) L 45 s₀) A (callEnvC (fdOf (methAt 2) "Whitespace.longest_run_of_spaces" pm cd) L 45) 0
  refine ex_unpack2 (T := T) (d1 := .tuple (c.map .int)) (d2 := .int b) O F (ev_norm H (c := c) (b := b) (nt := nt) (ev_name rfl)) (.inl rfl) (.inl rfl) fun s1 F1 K1 => ?_
  have hl : (c.map PyData.int).length < 2 ^ 62 := by rw [List.length_map]; omega
  refine ex_return (T := T) (d := .py (.int (longD c b))) O F1 ?_ fun v s' F' K' R' => ⟨v, rfl, F'.toSt, R'⟩
  have e : longD c b = max (((c.map PyData.int).length : Int) - 1) b := by unfold longD; rw [List.length_map]
  rw [e]
  exact ev_bcall (ev_bui G.max.1 G.max.2 rfl) (fun a h => by cases h) (evs_cons (ev_sub (ev_lenT G (ev_name rfl) hl rfl) ev_int) (evs_cons (ev_name rfl) evs_nil)) fun O s vs F r => op_max2 O F r

/-! indent_level -/
def ilAt (c : List Int) (ts : Nat) : Nat → Int
  | 0 => 0
  | i + 1 => ilAt c ts i + (((ts + i : Nat) : Int) / ts) * c.getD (ts + i) 0
def indD (c : List Int) (b nt : Int) (ts : Nat) : Int := b + ts * (ilAt c ts (c.length - ts) + nt)
theorem ct_indent (G : GOk mg mb) (H : ClsOk K) (HF : FnAt K 52 (methAt 3) "Whitespace.indent_level") (c : List Int) (b nt : Int) (ts : Nat) (hc : c.length ≤ 1000) (h1 : 1 ≤ ts) (h2 : ts ≤ 100000) :
    CT prog w K mg mb 1 (.ref 52) [.ws c b nt, .py (.int ts)] (.py (.int (indD c b nt ts))) := by
  obtain ⟨pm, cd, HO⟩ := okIndent HF
  refine ct_def HO rfl fun X A L s₀ s E O F => ?_
  let T := Tx.mk prog w K mg mb (cxOf X (fdOf (methAt 3) "Whitespace.indent_level" pm cd) L 52 s₀) A (callEnvC (fdOf (methAt 3) "Whitespace.indent_level" pm cd) L 52) 0
  have hl : (c.map PyData.int).length < 2 ^ 62 := by rw [List.length_map]; omega
  refine ex_unpack2 (T := T) (d1 := .tuple (c.map .int)) (d2 := .int b) O F (ev_norm H (c := c) (b := b) (nt := nt) (ev_name rfl)) (.inl rfl) (.inl rfl) fun s1 F1 K1 => ?_
  refine ex_assign (T := T) O F1 ev_int (.inl rfl) fun s2 F2 K2 => ?_
  have en : (((c.map PyData.int).length : Int) - (ts : Int)).toNat = c.length - ts := by rw [List.length_map]; omega
  refine ex_for (T := T) (ds := rangeD ts (((c.map PyData.int).length : Int) - (ts : Int)).toNat) (fun i => [("il", .py (.int (ilAt c ts i))), ("trailing", .py (.int b)), ("count", .py (.tuple (c.map .int))), ("self", .ws c b nt), ("tabsize", .py (.int ts))]) (fun _ _ => True) O
    (F2.sub (.cons rfl (.cons rfl (.cons rfl (.cons rfl (.cons rfl .nil)))))) trivial (fun _ => Stable.triv)
    (IT.at (it_range2 (ev_bui G.range.1 G.range.2 rfl) (evs_cons (ev_name rfl) (evs_cons (ev_lenT G (ev_name rfl) hl rfl) evs_nil)) (by omega) (by omega) (by omega) (by omega)) O (F2.sub (.cons rfl (.cons rfl (.cons rfl (.cons rfl (.cons rfl .nil))))))) (.inl rfl)
    (fun i d hd s3 E' F3 _ K3 => ?_) (fun s3 F3 _ K3 => ?_)
  · obtain ⟨rfl, hi⟩ := rangeD_get hd
    rw [en] at hi
    have hlt : ts + i < c.length := by omega
    refine ex_assign (T := T) (d := .py (.int (ilAt c ts (i + 1)))) O F3 ?_ (.inl rfl) fun s4 F4 K4 => ex_nil (T := T) ⟨F4.sub (.cons rfl (.cons rfl (.cons rfl (.cons rfl (.cons rfl .nil))))), trivial, K4.sw⟩
    have e : ilAt c ts (i + 1) = ilAt c ts i + (((ts : Int) + (i : Int)) / ts) * c.getD (ts + i) 0 := by
      simp only [ilAt]; push_cast; rfl
    rw [e]
    refine ev_add (ev_name rfl) (ev_mul (ev_div (ev_name rfl) (ev_name rfl) (by omega) (by omega)) (ev_idxT (k := (ts : Int) + (i : Int)) (ev_name rfl) (ev_name rfl) (by omega) (by omega) ?_) (mul_small ?_))
    · have e2 : ((ts : Int) + (i : Int)).toNat = ts + i := by omega
      rw [e2, List.getElem?_map, List.getElem?_eq_getElem hlt]
      simp [List.getD, List.getElem?_eq_getElem hlt]
    · have h3 : ((ts : Int) + (i : Int)) / ts ≤ (ts : Int) + i := Int.ediv_le_self _ (by omega)
      have h4 : 0 ≤ ((ts : Int) + (i : Int)) / ts := Int.ediv_nonneg (by omega) (by omega)
      omega
  · rw [rangeD_length, en] at F3
    refine ex_return (T := T) (d := .py (.int (indD c b nt ts))) O F3 ?_ fun v s' F' K' R' => ⟨v, rfl, F'.toSt, R'⟩
    exact ev_add (ev_name rfl) (ev_mul (ev_name rfl) (ev_add (ev_name rfl) (ev_nt H (c := c) (b := b) (ev_name rfl))) (mul_small (by omega)))

/-! equal -/
def normD (c : List Int) (b : Int) : PyData := .tuple [.tuple (c.map .int), .int b]
theorem lay_ints : ∀ c : List Int, PyData.canLayAll0 (c.map PyData.int) = true
  | [] => rfl
  | a :: c => by simp [PyData.canLayAll0, PyData.canLay0, lay_ints c]
theorem depth_ints : ∀ c : List Int, PyData.depthAll (c.map PyData.int) = 0
  | [] => rfl
  | a :: c => by simp [PyData.depthAll, PyData.depth, depth_ints c]
theorem shaped_norm (c : List Int) (b : Int) : shaped (normD c b) = true := by
  simp [shaped, normD, PyData.canLay0, PyData.canLayAll0, PyData.depth, PyData.depthAll, lay_ints, depth_ints]
theorem eqv_ints : ∀ c c' : List Int, PyData.eqvAll (c.map PyData.int) (c'.map PyData.int) = decide (c = c')
  | [], [] => rfl
  | [], _ :: _ => rfl
  | _ :: _, [] => rfl
  | a :: c, b :: c' => by
    simp only [List.map_cons, PyData.eqvAll, PyData.eqv, eqv_ints c c', List.cons.injEq]
    by_cases h : a = b <;> simp [h]
theorem eqv_norm (c c' : List Int) (b b' : Int) : PyData.eqv (normD c b) (normD c' b') = decide (c = c' ∧ b = b') := by
  simp only [normD, PyData.eqv, PyData.eqvAll, eqv_ints, Bool.and_true]
  by_cases h : c = c' <;> by_cases h' : b = b' <;> simp [h, h']
theorem ct_equal (H : ClsOk K) (HF : FnAt K 59 (methAt 4) "Whitespace.equal") (c : List Int) (b nt : Int) (c' : List Int) (b' nt' : Int) :
    CT prog w K mg mb 1 (.ref 59) [.ws c b nt, .ws c' b' nt'] (.py (.bool (decide (c = c' ∧ b = b')))) := by
  obtain ⟨pm, cd, HO⟩ := okEqual HF
  refine ct_def HO rfl fun X A L s₀ s E O F => ?_
  let T := Tx.mk prog w K mg mb (cxOf X (fdOf (methAt 4) "Whitespace.equal" pm cd) L 59 s₀) A (callEnvC (fdOf (methAt 4) "Whitespace.equal" pm cd) L 59) 0
  rw [← eqv_norm]
  exact ex_return (T := T) O F (ev_eq (ev_norm H (c := c) (b := b) (nt := nt) (ev_name rfl)) (ev_norm H (c := c') (b := b') (nt := nt') (ev_name rfl)) (shaped_norm _ _) (shaped_norm _ _)) fun v s' F' K' R' => ⟨v, rfl, F'.toSt, R'⟩

/-! not_equal_witness -/
def witD (c : List Int) (b nt : Int) (c' : List Int) (b' nt' : Int) : Nat → List PyData
  | 0 => []
  | i + 1 => witD c b nt c' b' nt' i ++ (if indD c b nt (i + 1) = indD c' b' nt' (i + 1) then [] else [.tuple [.int ((i + 1 : Nat) : Int), .int (indD c b nt (i + 1)), .int (indD c' b' nt' (i + 1))]])
theorem witD_len (c : List Int) (b nt : Int) (c' : List Int) (b' nt' : Int) : ∀ i, (witD c b nt c' b' nt' i).length ≤ i
  | 0 => Nat.le_refl _
  | i + 1 => by
    have := witD_len c b nt c' b' nt' i
    simp only [witD, List.length_append]
    split <;> simp <;> omega
theorem ct_wit (G : GOk mg mb) (H : ClsOk K) (HF : FnAt K 66 (methAt 5) "Whitespace.not_equal_witness") (HI : FnAt K 52 (methAt 3) "Whitespace.indent_level") (HL : FnAt K 45 (methAt 2) "Whitespace.longest_run_of_spaces")
    (k52 : keepIn K (.ref 52) = true) (k45 : keepIn K (.ref 45) = true) (c : List Int) (b nt : Int) (c' : List Int) (b' nt' : Int) (hc : c.length ≤ 1000) (hc' : c'.length ≤ 1000) (n : Nat) (hn : max (longD c b) (longD c' b') + 1 = n) (hn1 : n ≤ 1000) :
    CT prog w K mg mb 2 (.ref 66) [.ws c b nt, .ws c' b' nt'] (.py (.list (witD c b nt c' b' nt' n))) := by
  obtain ⟨pm, cd, HO⟩ := okWit HF
  refine ct_def HO rfl fun X A L s₀ s E O F => ?_
  let T := Tx.mk prog w K mg mb (cxOf X (fdOf (methAt 5) "Whitespace.not_equal_witness" pm cd) L 66 s₀) A (callEnvC (fdOf (methAt 5) "Whitespace.not_equal_witness" pm cd) L 66) 1
  refine ex_assign (T := T) (d := .py (.int n)) O F ?_ (.inl rfl) fun s1 F1 K1 => ?_
  · rw [← hn]
    refine ev_add (ev_bcall (ev_bui G.max.1 G.max.2 rfl) (fun a h => by cases h) (evs_cons (ev_mcall (f := 45) (n := 1) (d := .ws c b nt) (ev_name rfl) evs_nil (fun s v F r => ws_method H H.longest H.longestF (by simp) O s v F r) (ct_long G H HL c b nt hc) (Nat.le_refl _) k45)
      (evs_cons (ev_mcall (f := 45) (n := 1) (d := .ws c' b' nt') (ev_name rfl) evs_nil (fun s v F r => ws_method H H.longest H.longestF (by simp) O s v F r) (ct_long G H HL c' b' nt' hc') (Nat.le_refl _) k45) evs_nil)) fun O s vs F r => op_max2 O F r) ev_int
  refine ex_newlist (T := T) O F1 (.inl rfl) fun D s2 O' hXD hLD hcD F2 g2 K2 => ?_
  let T' := T.own D
  refine ex_for (T := T') (ds := rangeD 1 (((n : Int) + 1 - 1).toNat)) (fun i => [("a", .val (.ref D)), ("n", .py (.int n)), ("self", .ws c b nt), ("other", .ws c' b' nt')]) (fun i h => Grows T D (witD c b nt c' b' nt' i) h) O'
    (F2.sub (.cons rfl (.cons rfl (.cons rfl (.cons rfl .nil))))) g2 (fun i h h' g hk kx => g.keeps (fun o q => hk D o (.inr rfl) ?_ q) kx)
    (IT.at (it_range2 (a := 1) (b := (n : Int) + 1) (ev_bui G.range.1 G.range.2 rfl) (evs_cons ev_int (evs_cons (ev_add (ev_name rfl) ev_int) evs_nil)) (by omega) (by omega) (by omega) (by omega)) O' (F2.sub (.cons rfl (.cons rfl (.cons rfl (.cons rfl .nil)))))) (.inl rfl)
    (fun i d hd s3 E' F3 g3 K3 => ?_) (fun s3 F3 g3 K3 => ?_)
  · rintro ⟨_, z | ⟨y, z⟩⟩
    · exact hLD z.symm
    · exact hcD _ _ z rfl
  · obtain ⟨rfl, hi⟩ := rangeD_get hd
    have e1 : (1 : Int) + (i : Int) = ((i + 1 : Nat) : Int) := by push_cast; omega
    rw [e1] at F3
    have hi' : i + 1 ≤ n := by omega
    have evI : ∀ {ρ : Rho} {px ap cp tp : Pos}, ρ.lookup (Str.ofString "self") = some (.ws c b nt) → ρ.lookup (Str.ofString "ts") = some (.py (.int ((i + 1 : Nat) : Int))) → (ap.endLine == cp.line) = true →
        EV T' ρ (.Call (.Attribute (.Name "self" px) "indent_level" ap) [.Name "ts" tp] [] cp) (.py (.int (indD c b nt (i + 1)))) := fun h1 h2 hl =>
      ev_mcall (T := T') (f := 52) (n := 1) (d := .ws c b nt) (ev_name h1) (evs_cons (ev_name h2) evs_nil) (fun s v F r => ws_method H H.indent H.indentF (by simp) O' s v F r) (ct_indent G H HI c b nt (i + 1) hc (by omega) (by omega)) (Nat.le_refl _) k52 rfl hl
    have evO : ∀ {ρ : Rho} {px ap cp tp : Pos}, ρ.lookup (Str.ofString "other") = some (.ws c' b' nt') → ρ.lookup (Str.ofString "ts") = some (.py (.int ((i + 1 : Nat) : Int))) → (ap.endLine == cp.line) = true →
        EV T' ρ (.Call (.Attribute (.Name "other" px) "indent_level" ap) [.Name "ts" tp] [] cp) (.py (.int (indD c' b' nt' (i + 1)))) := fun h1 h2 hl =>
      ev_mcall (T := T') (f := 52) (n := 1) (d := .ws c' b' nt') (ev_name h1) (evs_cons (ev_name h2) evs_nil) (fun s v F r => ws_method H H.indent H.indentF (by simp) O' s v F r) (ct_indent G H HI c' b' nt' (i + 1) hc' (by omega) (by omega)) (Nat.le_refl _) k52 rfl hl
    have wl : (T.own D).C.W T.env.locals := O'.wl
    have hDk : ∀ {s s' : Shared}, Ke T.env.locals s s' → ∀ o, s.heap.get? D = some o → s'.heap.get? D = some o := fun K o q => K.heap D o hLD.symm q
    refine ex_if (T := T') O' F3 (tv_ne (evI rfl rfl rfl) (evO rfl rfl rfl) rfl rfl) (fun e s4 F4 K4 => ?_) (fun e s4 F4 K4 => ?_)
    · have hne : ¬ indD c b nt (i + 1) = indD c' b' nt' (i + 1) := by simpa [PyData.eqv] using e
      refine ex_append (T := T) O' hLD hcD F4 (g3.keeps (hDk K4) (K4.kx (O'.wx _ wl))) (Nat.le_trans (witD_len _ _ _ _ _ _ _) (by rw [sizeLine_eq]; omega)) (ev_name rfl)
        (d := .tuple [.int ((i + 1 : Nat) : Int), .int (indD c b nt (i + 1)), .int (indD c' b' nt' (i + 1))])
        (fun s' F' g' Q E k => ev_tuple (T := T') (evs_cons (ev_name rfl) (evs_cons (evI rfl rfl rfl) (evs_cons (evO rfl rfl rfl) evs_nil))) (by simp) O' s' Q E F' k)
        fun s5 F5 g5 K5 => ex_nil (T := T') (ex_nil (T := T') ⟨F5.sub (.cons rfl (.cons rfl (.cons rfl (.cons rfl .nil)))), ?_, (K4.kw wl).trans K5⟩)
      simp only [witD, if_neg hne]; exact g5
    · have heq : indD c b nt (i + 1) = indD c' b' nt' (i + 1) := by simpa [PyData.eqv] using e
      refine ex_nil (T := T') (ex_nil (T := T') ⟨F4.sub (.cons rfl (.cons rfl (.cons rfl (.cons rfl .nil)))), ?_, K4.kw wl⟩)
      simp only [witD, if_pos heq, List.append_nil]
      exact g3.keeps (hDk K4) (K4.kx (O'.wx _ wl))
  · have en : ((n : Int) + 1 - 1).toNat = n := by omega
    rw [rangeD_length, en] at g3
    refine ex_return (T := T') O' F3 (ev_name (d := .val (.ref D)) rfl) fun v s' F' K' R' => ⟨v, rfl, (F'.less O.toEOk rfl fun a ha => .inl ha).toSt, ?_⟩
    obtain rfl : v = .ref D := R'
    obtain ⟨vs, hp, hr⟩ := (g3.keeps (h' := s'.heap) (fun o q => K'.heap D o hLD.symm q) (K'.kx (O'.wx _ O'.wl))).ex
    exact Rd.mkList hXD hp.isList (hr.vol fun a o _ ha => .inl ha)
end Mine

end
section
set_option Elab.async false
set_option maxRecDepth 100000
set_option autoImplicit false
set_option linter.unusedVariables false
set_option linter.unusedSimpArgs false
namespace Mine
open PySem PySem.W PyProof.Rows PySem.Calls PySem.SeqAt

section
variable {M : Model} {A : Around} {R : GenEnd} {Y : Protocol} {n : Nat} {s₀ : Shared} {c : Code} {fs : List Frame} {s : Shared} {env : Env}
  {K : Flow → Sem Fin} {H : Value → Sem Fin} {gd : Bool → Bool} {lv : List Value → List Value}

theorem seg_bindw {α β : Type} {m : Sem α} {f : α → Sem β} {K : β → Sem Fin}
    (h : wpAny M (A.over c fs) m (fun a s' => Seg M A R Y n s₀ c ((f a).wrap K H gd lv) fs s') (fun x s' => Seg M A R Y n s₀ c (H x) fs s') s) : Seg M A R Y n s₀ c ((m >>= f).wrap K H gd lv) fs s := by
  rw [Sem.bind_eq_wrap', Sem.wrap_wrap]
  exact seg_wrap h

/-- a statement that does not yield -/
theorem seg_stmt {st : Stmt} {rest : List Stmt} (h : wpAny M (A.over c fs) (exec st env) (fun f s' => match f with | .next => Seg M A R Y n s₀ c ((execs rest env).wrap K H gd lv) fs s' | f => Seg M A R Y n s₀ c (K f) fs s') (fun x s' => Seg M A R Y n s₀ c (H x) fs s') s) :
    Seg M A R Y n s₀ c ((execs (st :: rest) env).wrap K H gd lv) fs s := by
  refine seg_execs_cons (seg_wrap (wpAny_mono h (fun f s' h' => ?_) fun _ _ x => x))
  cases f <;> exact h'

/-- a frame that the own loop leaves below -/
abbrev ownFrame (env : Env) (K : Flow → Sem Fin) (H : Value → Sem Fin) (gd : Bool → Bool) (lv : List Value → List Value) (c : Code) (p : Pos) : Frame :=
  .ret (fun r => ((match r with | .ok f => (.pure f : Sem Flow) | .error e => .raise e).onRaise fun (x : Value) => do
        if (← field x 1) == Value.none then unsupported "frame.own-activation:exception-without-traceback"
        setFlight x env.frame).wrap K H gd lv) none (gd false) (lv []) c p []

theorem seg_For {target iter : Expr} {body orelse : List Stmt} {pos : Pos}
    (h : wpAny M (A.over c fs) (eval iter env) (fun x s₁ => wpAny M (A.over c fs) (pyIter x) (fun it s₂ => ∀ p, Seg M A R Y n s₀ (.forLoop target it body orelse env) (M.den (.forLoop target it body orelse env)) (ownFrame env K H gd lv c p :: fs) s₂) (fun x s' => Seg M A R Y n s₀ c (H x) fs s') s₁) (fun x s' => Seg M A R Y n s₀ c (H x) fs s') s)
    (hs : ∀ x, foldedSetIterable iter env x = pure x := by intro _; rfl) :
    Seg M A R Y n s₀ c ((exec (.For target iter body orelse pos) env).wrap K H gd lv) fs s := by
  rw [exec_For]
  refine seg_bindw (wpAny_standAt ?_)
  refine seg_bindw (wpAny_mono h (fun x s₁ h₁ => ?_) fun _ _ x => x)
  refine seg_bindw (wpAny_of_eq (hs x) ?_)
  refine seg_bindw (wpAny_standAt ?_)
  refine seg_bindw (wpAny_holding (wpAny_mono h₁ (fun it s₂ h₂ => ?_) fun _ _ x => x))
  exact seg_call h₂

theorem seg_If {test : Expr} {body orelse rest : List Stmt} {pos : Pos}
    (h : wpAny M (A.over c fs) (isTrue test env (eval test env)) (fun b s' => if b = true then Seg M A R Y n s₀ c ((execs body env).wrap (fun f => match f with | .next => (execs rest env).wrap K H gd lv | f => K f) H gd lv) fs s'
      else Seg M A R Y n s₀ c ((execs orelse env).wrap (fun f => match f with | .next => (execs rest env).wrap K H gd lv | f => K f) H gd lv) fs s') (fun x s' => Seg M A R Y n s₀ c (H x) fs s') s) :
    Seg M A R Y n s₀ c ((execs (.If test body orelse pos :: rest) env).wrap K H gd lv) fs s := by
  refine seg_execs_cons ?_
  show Seg M A R Y n s₀ c ((standAt pos >>= fun _ => (isTrue test env (eval test env) >>= fun b => if b = true then execs body env else execs orelse env)).wrap _ H gd lv) fs s
  refine seg_bindw (wpAny_standAt ?_)
  refine seg_bindw (wpAny_mono h (fun b s' h' => ?_) fun _ _ x => x)
  cases b with
  | true => simp only [if_true] at h' ⊢; exact h'
  | false => simp only [Bool.false_eq_true, if_false] at h' ⊢; exact h'
end

section
variable {prog : Program} {w : World} {A : Around} {R : GenEnd} {Y : Protocol} {n : Nat} {s₀ : Shared} {fs : List Frame} {s : Shared} {env : Env}

theorem seg_forLoop {target : Expr} {it : Value} {body : List Stmt}
    (h : wpAny (model prog w) (A.over (.forLoop target it body [] env) fs) (pyNext it) (fun r s' => match r with
        | none => Seg (model prog w) A R Y n s₀ (.forLoop target it body [] env) (.pure (.again (.block [] env))) fs s'
        | some v => wpAny (model prog w) (A.over (.forLoop target it body [] env) fs) (assign target env v) (fun _ s'' =>
            Seg (model prog w) A R Y n s₀ (.forLoop target it body [] env) ((execs body env).wrap (fun f => match f with
              | .next | .cont => .pure (.again (.forLoop target it body [] env))
              | .brk => .pure (.done .next)
              | .ret v => .pure (.done (.ret v))) (fun e => (do noteFrame e env; theTreesLotGoes e : Sem Unit).wrap (fun _ => .raise e) .raise id id) id id) fs s'') (fun _ _ => False) s') (fun _ _ => False) s)
    (ht : ∀ v, letOwnedTupleGo target it v = pure () := by intro _; rfl) :
    Seg (model prog w) A R Y n s₀ (.forLoop target it body [] env) ((model prog w).den (.forLoop target it body [] env)) fs s := by
  show Seg _ A R Y n s₀ _ ((forTurn target it body [] env).onRaise (fun x => do noteFrame x env; theTreesLotGoes x)) fs s
  unfold forTurn
  rw [Sem.onRaise_eq_wrap]
  refine seg_bindw (wpAny_standAt ?_)
  refine seg_bindw (wpAny_onRaise (wpAny_mono h (fun r s' h' => ?_) fun _ _ x => x.elim))
  cases r with
  | none => exact h'
  | some v =>
    refine seg_bindw (wpAny_of_eq (ht v) ?_)
    refine seg_bindw (wpAny_mono h' (fun _ s'' h'' => ?_) fun _ _ x => x.elim)
    rw [Sem.bind_eq_wrap', Sem.wrap_wrap]
    rw [Sem.wrap_congr (execs body env) _ _ (K' := fun f => match f with
            | .next | .cont => .pure (.again (.forLoop target it body [] env))
            | .brk => .pure (.done .next)
            | .ret v => .pure (.done (.ret v))) (H' := (fun e => (do noteFrame e env; theTreesLotGoes e : Sem Unit).wrap (fun _ => .raise e) .raise id id))
        (fun f => by cases f <;> rfl) (fun e => by first | exact Sem.bind_eq_wrap _ _ | (show (do noteFrame e env; theTreesLotGoes e : Sem Unit).bind (fun _ => .raise e) = _; rw [Sem.bind_eq_wrap]))]
    exact h''

theorem seg_block_nil (h : Seg (model prog w) A R Y n s₀ (.block [] env) (.pure (.done .next)) fs s) : Seg (model prog w) A R Y n s₀ (.block [] env) ((model prog w).den (.block [] env)) fs s := h

/-- a StopIteration is made -/
theorem stop_made {M : Model} {E : Value → Shared → Prop} {Q : Value → Shared → Prop} (h : ∀ h' e, s.heap.StaysIn h' → (∃ o, h'.get? e = some o ∧ o.cls = .type "StopIteration") → Q (.ref e) { s with heap := h' }) :
    wpAny M A (newExc (.type "StopIteration") []) Q E s := by
  unfold newExc
  exact wpAny_bind (wpAny_newTuple (wpAny_bind (m := firstArgMember _ _) (wpAny_of_eq (a := .none) rfl
    (wpAny_newObj_type (h _ _ (fun b o e => push_stays _ _ b o (push_stays _ _ b o e)) ⟨_, Heap.get?_push_size _ rfl, rfl⟩) (by size_fits)))))
/-- it is raised where nothing is being handled -/
theorem raise_bare {M : Model} {α : Type} {E : Value → Shared → Prop} {e : Value} {Q : α → Shared → Prop} (hh : A.handled = none) (h : E e s) : wpAny M A (raiseNew e) Q E s := by
  unfold raiseNew
  refine wpAny_bind (wpAny_handled_none hh ?_)
  cases e <;> exact wpAny_bind (wpAny_pure (wpAny_throw h))

/-- a waiting generator is woken: it yields and waits again, without a cleanup to come, or it comes to its end -/
theorem wake_gen {E : Value → Shared → Prop} {a : Addr} {g n : Nat} {gs : GenState} {R : GenEnd} {Y : Protocol} {Q : Fin → Shared → Prop} (hh : A.handled = none) (hl : s.heap.NoLimit) (hroom : A.depth < recursionLimit)
    (hg : s.heap.IsGen a g) (hgs : s.gens[g]? = some gs) (hgo : gs.Goes (model prog w) A R Y n (.send .none) (s.setGen g .running))
    (hR : ∀ r s₁, R n (s.setGen g .running) r s₁ → r = .ok (.ret .none) ∧ ∀ h' e, s₁.heap.StaysIn h' → (∃ o, h'.get? e = some o ∧ o.cls = .type "StopIteration") → E (.ref e) { s₁.setGen g .finished with heap := h' })
    (hY : ∀ v s₁ gs', gs'.bare = true → Y (n - 1) (s.setGen g .running) v s₁ (fun r' s'' => match n with | 0 => False | m + 1 => gs'.Goes (model prog w) A R Y m r' s'') → Q (.done (.ret v)) (s₁.setGen g gs')) :
    wpAny (model prog w) A (Builtin.Generator.genWake (.ref a) (.send .none)) Q E s := by
  have live : gs.status = .fresh ∨ gs.status = .suspended := by
    cases gs with
    | fresh => exact .inl rfl
    | suspended => exact .inr rfl
    | running => exact hgo.elim
    | finished => exact hgo.elim
  have main : ∀ k : GenResult → Sem Fin, (∀ v s', Q (.done (.ret v)) s' → wpAny (model prog w) A (k (.yielded v)) Q E s') →
      (∀ s', (∀ h' e, s'.heap.StaysIn h' → (∃ o, h'.get? e = some o ∧ o.cls = .type "StopIteration") → E (.ref e) { s' with heap := h' }) → wpAny (model prog w) A (k (.returned .none)) Q E s') →
      wpAny (model prog w) A (.resume g (.send .none) [] k) Q E s := fun k ky kr =>
    wpAny_resumeQ hgs hgo (fun r s₁ h => by
      obtain ⟨rfl, q⟩ := hR r s₁ h
      exact kr (s₁.setGen g .finished) q) fun v s₁ gs' hb h => ky v _ (hY v s₁ gs' hb h)
  refine wpAny_bind (wpAny_holding (wpAny_genNumber hg (wpAny_bind (wpAny_genState hgs ?_))))
  rcases live with q | q <;> rw [q] <;>
    exact wpAny_bind (wpAny_roomToWake hl hroom (main _ (fun v s' h => wpAny_pure h) fun s' h => wpAny_bind (wpAny_pure (wpAny_bind (m := newExc _ _) (stop_made fun h' e st he => wpAny_bind (raise_bare hh (h h' e st he)))))))

/-- a def's generator asked for its next -/
theorem pyNext_gen {E : Value → Shared → Prop} {a : Addr} {g n : Nat} {gs : GenState} {R : GenEnd} {Y : Protocol} {Q : Option Value → Shared → Prop} (hh : A.handled = none)
    (hl : s.heap.NoLimit) (hroom : A.depth < recursionLimit) (hg : s.heap.IsGen a g) (hgs : s.gens[g]? = some gs) (hgo : gs.Goes (model prog w) A.in1 R Y n (.send .none) (s.setGen g .running))
    (hY : ∀ v s₁ gs', gs'.bare = true → Y (n - 1) (s.setGen g .running) v s₁ (fun r' s'' => match n with | 0 => False | m + 1 => gs'.Goes (model prog w) A.in1 R Y m r' s'') → Q (some v) (s₁.setGen g gs'))
    (hR : ∀ r s₁, R n (s.setGen g .running) r s₁ → r = .ok (.ret .none) ∧ ∀ h', s₁.heap.StaysIn h' → Q none { s₁.setGen g .finished with heap := h' }) :
    wpAny (model prog w) A (pyNext (.ref a)) Q E s := by
  refine wpAny_bind (wpAny_attempt (wpAny_callSpecial?_slot (name := Str.ofString "__next__") hg.typeIs slot_gen_next (wpAny_call_entry slot_gen_next hg.typeIs entry_gen_next
    (wake_gen (A := A.in1) hh hl hroom hg hgs hgo (fun r s₁ h => ⟨(hR r s₁ h).1, fun h' e st he => ?_⟩) fun v s₁ gs' hb h => ⟨v, rfl, wpAny_pure (hY v s₁ gs' hb h)⟩) (args_gen_next _))))
  obtain ⟨o, ho, hc⟩ := he
  exact wpAny_bind (wpAny_isInstance (T := "StopIteration") (b := true) ⟨o, ho, hc⟩ isSubtype_stop (wpAny_pure ((hR r s₁ h).2 h' st)))
end
end Mine

end
section
set_option Elab.async false
set_option maxRecDepth 100000
set_option autoImplicit false
set_option linter.unusedVariables false
set_option linter.unusedSimpArgs false
namespace Mine
open PySem PySem.W PyProof.Rows PySem.Calls PySem.SeqAt

/-! the generator's plain account -/
inductive GS where
  | start
  | at (i : Nat)
  | rep (v : Int)
def nextFrom (zs : List Int) (i : Nat) (last : Option Int) : Option (Int × GS) := match zs[i]? with
  | none => none
  | some z => if z = 127 then none else if z = 0 then last.map fun v => (v, .rep v) else some (z, .at i)
def genStep (zs : List Int) : GS → Option (Int × GS)
  | .start => nextFrom zs 0 none
  | .at i => nextFrom zs (i + 1) (some (zs.getD i 0))
  | .rep v => some (v, .rep v)
def stAt (zs : List Int) : Nat → Option GS
  | 0 => some .start
  | j + 1 => (stAt zs j).bind fun st => (genStep zs st).map (·.2)
def outAt (zs : List Int) (j : Nat) : Option (Int × GS) := (stAt zs j).bind (genStep zs)

section
variable {T : Tx} {ρ : Rho}
theorem ev_valInt {e : Expr} {n : Int} {t : Tok} (h : EV T ρ e (.val (.int n t))) : EV T ρ e (.py (.int n)) := fun O s Q E F k =>
  h O s Q E F fun v s' F' K' R' => k v s' F' K' (by obtain rfl : v = .int n t := R'; exact Rd.int _ _)
theorem tv_eqI {l r : Expr} {pos : Pos} {a b : Int} (h1 : EV T ρ l (.py (.int a))) (h2 : EV T ρ r (.py (.int b))) : TV T ρ (.Compare l [.Eq] [r] pos) (a == b) := tv_eq h1 h2 rfl rfl
theorem tv_isNone {l : Expr} {pos np : Pos} {k : Nat} {a : Int} (h1 : EV T ρ l (.py (.int a))) : TV T ρ (.Compare l [.Is] [.Constant .none k np] pos) false :=
  tv_cmp h1 ev_none (hm := rfl) fun O s v1 v2 F r1 r2 => by
    obtain ⟨t, rfl⟩ := Rd.int_inv r1; obtain rfl := Rd.none_inv r2
    exact fun Q E k => is_int_none (k _ s.heap s.toks (.refl _ _) (Rd.bool _))
theorem ev_true {k : Nat} {pos : Pos} : EV T ρ (.Constant (.bool true) k pos) (.py (.bool true)) := fun O s Q E F k' =>
  (fun _ _ _ => k' _ _ F (.refl _ _) (Rd.bool _) : wpAny (model T.prog T.w) T.A (eval (.Constant (.bool true) k pos) T.env) Q E s)
end

def IterObj (o : Obj) : Prop := o.cls = .type "list_iterator" ∧ ∃ vs, o.data = .fields vs
/-- what the generator's body may change: its frame and its own iterator -/
structure Kg (C : Cx) (Lg : Addr) (s s' : Shared) : Prop where
  heap : ∀ b o, b ≠ Lg → (C.s₀.heap.get? b = none → ¬ IterObj o) → s.heap.get? b = some o → s'.heap.get? b = some o
  gens : ∀ (i : Nat) x, s.gens[i]? = some x → s'.gens[i]? = some x
theorem Kg.refl (C : Cx) (Lg : Addr) (s : Shared) : Kg C Lg s s := ⟨fun _ _ _ _ e => e, fun _ _ e => e⟩
theorem Kg.trans {C : Cx} {Lg : Addr} {s s' s'' : Shared} (a : Kg C Lg s s') (b : Kg C Lg s' s'') : Kg C Lg s s'' := ⟨fun c o n h e => b.heap c o n h (a.heap c o n h e), fun i x e => b.gens i x (a.gens i x e)⟩
theorem Kg.ke {C : Cx} {Lg : Addr} {s s' : Shared} (k : Ke Lg s s') : Kg C Lg s s' := ⟨fun b o n _ e => k.heap b o n e, k.gens⟩

structure LI (C : Cx) (I l : Addr) (vs : List Value) (zs : List Int) (i : Nat) (h : Heap) : Prop where
  it : h.IsListIter I l i
  ls : h.IsList l vs.toArray
  iz : IntsAre vs zs
  offI : ¬ C.X I
  newI : C.s₀.heap.get? I = none
  offl : ¬ C.X l
  ne : l ≠ I
theorem LI.keeps {C : Cx} {I l : Addr} {vs : List Value} {zs : List Int} {i : Nat} {h h' : Heap} (x : LI C I l vs zs i h) (k : ∀ b o, ¬ C.X b → h.get? b = some o → h'.get? b = some o) : LI C I l vs zs i h' :=
  ⟨x.it.at fun o e => k I o x.offI e, x.ls.at fun o e => k l o x.offl e, x.iz, x.offI, x.newI, x.offl, x.ne⟩

def GI (C : Cx) (env : Env) (zs : List Int) : GS → Addr → Addr → List Value → Shared → Prop
  | .start, _, _, _, s => FB C env [(("grouping" : Str), .py (.list (zs.map .int)))] s
  | .at i, I, l, vs, s => FB C env [(("interval" : Str), .py (.int (zs.getD i 0)))] s ∧ LI C I l vs zs (i + 1) s.heap
  | .rep v, _, _, _, s => FB C env [(("last_interval" : Str), .py (.int v))] s

abbrev envG (Lg : Addr) (pm cd : Value) : Env := callEnvC (fdOf (stmtAt 6) "_grouping_intervals" pm cd) Lg 101

def YG (C : Cx) (env : Env) (zs : List Int) (Lg : Addr) (N : Nat) : Protocol := fun n s₀ v s' kap =>
  ∃ z st t I l vs, outAt zs (N - 1 - n) = some (z, st) ∧ v = .int z t ∧ Kg C Lg s₀ s' ∧ GI C env zs st I l vs s' ∧ (0 < n → ∀ s'', GI C env zs st I l vs s'' → kap (.send .none) s'')
def PG (C : Cx) (zs : List Int) (Lg : Addr) (N : Nat) (n : Nat) (s₀ s₁ : Shared) : Prop := outAt zs (N - n) = none ∧ Kg C Lg s₀ s₁ ∧ St C s₁
abbrev RG (C : Cx) (zs : List Int) (Lg : Addr) (N : Nat) : GenEnd := fun n s₀ r s₁ => r = .ok (.ret .none) ∧ PG C zs Lg N n s₀ s₁

theorem over_aok {A : Around} {c : Code} {fs : List Frame} (h : A.handled = none) (hd : A.depth + 5 < recursionLimit) (hu : A.units + 120 < cLine) (hf : (marksOver fs (none, none)).1 = none)
    (hw : frameCount (fs.map Frame.where_) + c.weight ≤ 5) (hun : unitsOf (fs.map Frame.where_) + c.cUnits ≤ 20) : AOk (A.over c fs) 0 := by
  refine ⟨?_, ?_, ?_⟩
  · show (marksOver fs (A.handled, A.handled)).1 = none
    rw [h]; exact hf
  · show A.depth + frameCount (fs.map Frame.where_) + c.weight + 0 < recursionLimit
    omega
  · show A.units + unitsOf (fs.map Frame.where_) + c.cUnits + 10 * 0 + 100 < cLine
    omega

section
variable {prog : Program} {w : World} {K : Frag} {mg mb : Str → Option Value} {C : Cx} {A : Around} {Lg : Addr} {pm cd : Value} {zs : List Int} {N : Nat}

abbrev TG (prog : Program) (w : World) (K : Frag) (mg mb : Str → Option Value) (C : Cx) (A : Around) (Lg : Addr) (pm cd : Value) : Tx := ⟨prog, w, K, mg, mb, C, A, envG Lg pm cd, 0⟩

/-- while True: yield last_interval -/
theorem seg_rep (E0 : EOk K mg mb C (envG Lg pm cd)) {v : Int} {test : Expr} {yp p1 p2 : Pos} {fs : List Frame} (ht : test = .Constant (.bool true) 0 p1) (hA : AOk (A.over (.whileLoop test [.Expr (.Yield (some (.Name "last_interval" yp)) p2) p2] [] (envG Lg pm cd)) fs) 0)
    (hfs : splitAtGen fs = none) (hfg : fs.any Frame.guarded = false) : ∀ (n j : Nat) (s₀ s : Shared), 0 < n → n + j = N → outAt zs j = some (v, .rep v) → FB C (envG Lg pm cd) [(("last_interval" : Str), .py (.int v))] s → Kg C Lg s₀ s →
    Seg (model prog w) A (RG C zs Lg N) (YG C (envG Lg pm cd) zs Lg N) n s₀ (.whileLoop test [.Expr (.Yield (some (.Name "last_interval" yp)) p2) p2] [] (envG Lg pm cd)) ((model prog w).den (.whileLoop test [.Expr (.Yield (some (.Name "last_interval" yp)) p2) p2] [] (envG Lg pm cd))) fs s
  | 0, _, _, _, h, _, _, _, _ => absurd h (Nat.lt_irrefl _)
  | n + 1, j, s₀, s, _, hN, ho, F, kg => by
    subst ht
    let T := TG prog w K mg mb C (A.over (.whileLoop (.Constant (.bool true) 0 p1) [.Expr (.Yield (some (.Name "last_interval" yp)) p2) p2] [] (envG Lg pm cd)) fs) Lg pm cd
    have O : T.Ok := { E0, hA with }
    refine seg_whileLoop (tv_plain (T := T) ev_true rfl O s _ _ F fun s1 F1 K1 => ?_)
    rw [if_pos rfl]
    refine seg_execs_cons (seg_Expr_Yield hfs rfl hfg (ev_name (T := T) (x := "last_interval") (d := .py (.int v)) rfl rfl rfl O s1 _ _ F1 fun u s2 F2 K2 R2 => ?_))
    obtain ⟨t, rfl⟩ := Rd.int_inv R2
    intro kap hk
    refine ⟨v, .rep v, t, 0, 0, [], by rw [show N - 1 - n = j by omega]; exact ho, rfl, (kg.trans (.ke K1)).trans (.ke K2), F2, fun hn s3 F3 => hk _ s3 ?_⟩
    show Seg _ _ _ _ n s3 _ (.pure (.again _)) fs s3
    refine seg_again rfl (seg_rep E0 rfl hA hfs hfg n (j + 1) s3 s3 hn (by omega) ?_ F3 (.refl _ _ _))
    have hs : stAt zs (j + 1) = some (.rep v) := by
      unfold outAt at ho
      cases q : stAt zs j with
      | none => rw [q] at ho; cases ho
      | some st =>
        rw [q, Option.bind_some] at ho
        simp only [stAt, q, Option.bind_some, ho, Option.map_some]
    unfold outAt; rw [hs]; rfl
end
end Mine

end
section
set_option Elab.async false
set_option maxRecDepth 100000
set_option autoImplicit false
set_option linter.unusedVariables false
set_option linter.unusedSimpArgs false
namespace Mine
open PySem PySem.W PyProof.Rows PySem.Calls PySem.SeqAt

def gBody : List Stmt := loopBody (((fBody (stmtAt 6))[1]?).getD (.Pass ⟨0, 0, 0, 0⟩))
def rhoLast : Option Int → Rho
  | none => [("last_interval", .py .none)]
  | some v => [("last_interval", .py (.int v))]
theorem IntsAre.get {vs : List Value} {zs : List Int} (h : IntsAre vs zs) : ∀ {i : Nat} {z : Int}, zs[i]? = some z → ∃ t, vs[i]? = some (.int z t) := by
  induction h with
  | nil => intro i z h; simp at h
  | cons n t _ ih =>
    intro i z h
    cases i with
    | zero => simp at h; subst h; exact ⟨t, rfl⟩
    | succ i => simp at h; obtain ⟨u, hu⟩ := ih h; exact ⟨u, by simpa using hu⟩
theorem IntsAre.len {vs : List Value} {zs : List Int} (h : IntsAre vs zs) : vs.length = zs.length := by
  induction h with
  | nil => rfl
  | cons n t _ ih => simp [ih]
theorem outAt_next {zs : List Int} {j : Nat} {z : Int} {st : GS} (h : outAt zs j = some (z, st)) : outAt zs (j + 1) = genStep zs st := by
  unfold outAt at h ⊢
  cases q : stAt zs j with
  | none => rw [q] at h; cases h
  | some st' =>
    rw [q, Option.bind_some] at h
    simp only [stAt, q, Option.bind_some, h, Option.map_some]

section
variable {prog : Program} {w : World} {K : Frag} {mg mb : Str → Option Value} {C : Cx} {A : Around} {Lg : Addr} {pm cd : Value} {zs : List Int} {N : Nat}

theorem Kg.step {C : Cx} {Lg : Addr} {s : Shared} {h' : Heap} {tk : Nat} (k : ∀ b o, b ≠ Lg → (C.s₀.heap.get? b = none → ¬ IterObj o) → s.heap.get? b = some o → h'.get? b = some o) : Kg C Lg s { s with heap := h', toks := tk } := ⟨k, fun _ _ e => e⟩

theorem seg_loop (G : GOk mg mb) (E0 : EOk K mg mb C (envG Lg pm cd)) (hW : ∀ a, C.W a → a = Lg) (hA0 : A.handled = none) (hA1 : A.depth + 5 < recursionLimit) (hA2 : A.units + 120 < cLine) {px : Pos} {I : Addr} {K1 : Flow → Sem Fin} {H1 : Value → Sem Fin} {p : Pos} {B : List Stmt}
    (hend : ∀ n s₀ s, PG C zs Lg N n s₀ s → Seg (model prog w) A (RG C zs Lg N) (YG C (envG Lg pm cd) zs Lg N) n s₀ (.func B (envG Lg pm cd)) (K1 .next) [] s ∧ Seg (model prog w) A (RG C zs Lg N) (YG C (envG Lg pm cd) zs Lg N) n s₀ (.func B (envG Lg pm cd)) (K1 (.ret .none)) [] s) :
    ∀ (n j i : Nat) (last : Option Int) (l : Addr) (vs : List Value) (s₀ s : Shared), 0 < n → n + j = N → outAt zs j = nextFrom zs i last → (last = none → zs[i]? ≠ some 0) → FB C (envG Lg pm cd) (rhoLast last) s → LI C I l vs zs i s.heap → Kg C Lg s₀ s →
    Seg (model prog w) A (RG C zs Lg N) (YG C (envG Lg pm cd) zs Lg N) n s₀ (.forLoop (.Name "interval" px) (.ref I) gBody [] (envG Lg pm cd)) ((model prog w).den (.forLoop (.Name "interval" px) (.ref I) gBody [] (envG Lg pm cd))) [ownFrame (envG Lg pm cd) K1 H1 id id (.func B (envG Lg pm cd)) p] s
  | 0, _, _, _, _, _, _, _, h, _, _, _, _, _, _ => absurd h (Nat.lt_irrefl _)
  | n + 1, j, i, last, l, vs, s₀, s, _, hN, ho, hgood, F, L, kg => by
    have hA : AOk (A.over (.forLoop (.Name "interval" px) (.ref I) gBody [] (envG Lg pm cd)) [ownFrame (envG Lg pm cd) K1 H1 id id (.func B (envG Lg pm cd)) p]) 0 := over_aok hA0 hA1 hA2 rfl (Nat.le_of_ble_eq_true rfl) (Nat.le_of_ble_eq_true rfl)
    let T := TG prog w K mg mb C (A.over (.forLoop (.Name "interval" px) (.ref I) gBody [] (envG Lg pm cd)) [ownFrame (envG Lg pm cd) K1 H1 id id (.func B (envG Lg pm cd)) p]) Lg pm cd
    have O : T.Ok := { E0, hA with }
    have hNN : N - (n + 1) = j := by omega
    have hirr : ∀ o, s.heap.get? I = some o → ¬ Rel o := fun o ho => by
      obtain ⟨o', ho', hc, _⟩ := L.it
      rw [ho'] at ho; cases ho
      exact not_rel hc (by decide) (by decide) (by decide)
    have hkI : ∀ {h' : Heap}, (∀ b o, b ≠ I → s.heap.get? b = some o → h'.get? b = some o) → ∀ b o, b ≠ Lg → (C.s₀.heap.get? b = none → ¬ IterObj o) → s.heap.get? b = some o → h'.get? b = some o := fun {h'} hk b o _ hl e =>
      hk b o (fun z => by
        subst z
        obtain ⟨o', ho', hc, hd⟩ := L.it
        rw [ho'] at e; cases e
        exact hl L.newI ⟨hc, _, hd⟩) e
    refine seg_forLoop ?_
    cases hz : zs[i]? with
    | none =>
      have hx : vs.toArray[i]? = none := by
        rw [List.getElem?_toArray]
        rw [List.getElem?_eq_none_iff] at hz ⊢
        rw [IntsAre.len L.iz]; exact hz
      refine wpAny_pyNext_list_end hA.handled L.it L.ls hx fun h' he => ?_
      have hk : ∀ b o, b ≠ I → s.heap.get? b = some o → h'.get? b = some o := fun b o z e => he b o z e
      have F' : FB C (envG Lg pm cd) (rhoLast last) { s with heap := h' } := F.but E0 L.offI L.newI hirr ⟨hk, rfl, rfl, fun _ _ e => e, id⟩
      refine seg_again rfl (seg_block_nil (seg_leaf (.ok .next) (hend (n + 1) s₀ _ ⟨?_, kg.trans (Kg.step (tk := s.toks) (hkI hk)), F'.toSt⟩).1))
      rw [hNN, ho]; unfold nextFrom; rw [hz]
    | some z =>
      obtain ⟨tz, hv⟩ := IntsAre.get L.iz hz
      refine wpAny_pyNext_list_item L.it L.ls (x := .int z tz) (by rw [List.getElem?_toArray]; exact hv) fun h' hit' hs' => ?_
      have hk : ∀ b o, b ≠ I → s.heap.get? b = some o → h'.get? b = some o := fun b o z e => hs'.extBut b o z e
      have F' : FB C (envG Lg pm cd) (rhoLast last) { s with heap := h' } := F.but E0 L.offI L.newI hirr ⟨hk, rfl, rfl, fun _ _ e => e, id⟩
      have L' : LI C I l vs zs (i + 1) h' := ⟨hit', L.ls.at fun o e => hk l o L.ne e, L.iz, L.offI, L.newI, L.offl, L.ne⟩
      refine wpAny_assign_Name (st_name (T := T) O F' (d := .py (.int z)) (Rd.int _ _) (fun s2 F2 K2 => ?_) (.inl rfl))
      have L2 : LI C I l vs zs (i + 1) s2.heap := L'.keeps fun b o n e => K2.heap b o (fun q => n (E0.wx _ q.1)) e
      have kg2 : Kg C Lg s₀ s2 := (kg.trans (Kg.step (tk := s.toks) (hkI hk))).trans ⟨fun b o n _ e => K2.heap b o (fun q => n (hW _ q.1)) e, K2.gens⟩
      have stepL : ∀ {s s' : Shared}, Ke Lg s s' → LI C I l vs zs (i + 1) s.heap → LI C I l vs zs (i + 1) s'.heap := fun {s s'} k x => x.keeps fun b o n e => k.heap b o (fun q => n (q ▸ E0.wx _ E0.wl)) e
      obtain ⟨tc, hcm⟩ := G.charmax
      refine seg_If (tv_eqI (T := T) (a := z) (b := 127) (ev_name rfl) (ev_valInt (ev_glob hcm rfl)) O s2 _ _ F2 fun s3 F3 K3 => ?_)
      by_cases h127 : z = 127
      · rw [if_pos (by rw [h127]; rfl)]
        refine seg_stmt (wpAny_Return_none ?_)
        refine seg_leaf (.ok (.ret .none)) (hend (n + 1) s₀ _ ⟨?_, kg2.trans (.ke K3), F3.toSt⟩).2
        rw [hNN, ho]; unfold nextFrom; rw [hz]; simp [h127]
      · rw [if_neg (by simpa using h127)]
        refine seg_execs_nil ?_
        refine seg_If (tv_eqI (T := T) (a := z) (b := 0) (ev_name rfl) ev_int O s3 _ _ F3 fun s4 F4 K4 => ?_)
        by_cases h0 : z = 0
        · rw [if_pos (by rw [h0]; rfl)]
          cases last with
          | none => exact absurd (h0 ▸ hz) (hgood rfl)
          | some v =>
            refine seg_If (tv_isNone (T := T) (a := v) (ev_name rfl) O s4 _ _ F4 fun s5 F5 K5 => ?_)
            rw [if_neg (by decide)]
            refine seg_execs_nil (seg_execs_cons (seg_While fun p' => ?_))
            refine seg_rep E0 rfl (over_aok hA0 hA1 hA2 rfl (Nat.le_of_ble_eq_true rfl) (Nat.le_of_ble_eq_true rfl)) rfl rfl (n + 1) j s₀ s5 (Nat.succ_pos _) hN ?_ (F5.sub (.cons rfl .nil)) (((kg2.trans (.ke K3)).trans (.ke K4)).trans (.ke K5))
            rw [ho]; unfold nextFrom; rw [hz]; simp [h0]
        · rw [if_neg (by simpa using h0)]
          refine seg_execs_nil ?_
          refine seg_execs_cons (seg_Expr_Yield rfl rfl rfl (ev_name (T := T) (x := "interval") (d := .py (.int z)) rfl rfl rfl O s4 _ _ F4 fun u s5 F5 K5 R5 => ?_))
          obtain ⟨t, rfl⟩ := Rd.int_inv R5
          intro kap hkap
          have hget : zs.getD i 0 = z := by simp [List.getD, hz]
          have hout : outAt zs j = some (z, .at i) := by rw [ho]; unfold nextFrom; rw [hz]; simp [h127, h0]
          refine ⟨z, .at i, t, I, l, vs, by rw [show N - 1 - n = j by omega]; exact hout, rfl, ((kg2.trans (.ke K3)).trans (.ke K4)).trans (.ke K5), ⟨hget.symm ▸ F5.sub (.cons rfl .nil), stepL K5 (stepL K4 (stepL K3 L2))⟩, fun hn s6 g6 => hkap _ s6 ?_⟩
          obtain ⟨F6, L6⟩ := g6
          rw [hget] at F6
          refine seg_stmt (wpAny_Assign_Name (ev_name (T := T) (x := "interval") (d := .py (.int z)) rfl rfl rfl O s6 _ _ F6 fun u s7 F7 K7 R7 => st_name (T := T) O F7 R7 (fun s8 F8 K8 => ?_) (.inl rfl)) rfl)
          refine seg_execs_nil (seg_again rfl (seg_loop G E0 hW hA0 hA1 hA2 hend n (j + 1) (i + 1) (some z) l vs s6 s8 hn (by omega) ?_ (fun h => by cases h) (F8.sub (.cons rfl .nil)) ?_ ((Kg.ke K7).trans ⟨fun b o n _ e => K8.heap b o (fun q => n (hW _ q.1)) e, K8.gens⟩)))
          · rw [outAt_next hout]; show nextFrom _ _ _ = _; rw [hget]
          · exact (stepL K7 L6).keeps fun b o n e => K8.heap b o (fun q => n (E0.wx _ q.1)) e
end
end Mine

end
section
set_option Elab.async false
set_option maxRecDepth 100000
set_option autoImplicit false
set_option linter.unusedVariables false
set_option linter.unusedSimpArgs false
namespace Mine
open PySem PySem.W PyProof.Rows PySem.Calls PySem.SeqAt

section
variable {prog : Program} {w : World} {K : Frag} {mg mb : Str → Option Value} {C : Cx} {A : Around} {Lg : Addr} {pm cd : Value} {zs : List Int} {N : Nat}

/-- the generator's first waking -/
theorem seg_start (G : GOk mg mb) (E0 : EOk K mg mb C (envG Lg pm cd)) (hW : ∀ a, C.W a → a = Lg) (hA0 : A.handled = none) (hA1 : A.depth + 5 < recursionLimit) (hA2 : A.units + 120 < cLine) (h0 : zs[0]? ≠ some 0) (hN : 0 < N) {s : Shared} (F : FB C (envG Lg pm cd) [(("grouping" : Str), .py (.list (zs.map .int)))] s) :
    Seg (model prog w) A (RG C zs Lg N) (YG C (envG Lg pm cd) zs Lg N) N s (.func (fBody (stmtAt 6)) (envG Lg pm cd)) ((model prog w).den (.func (fBody (stmtAt 6)) (envG Lg pm cd))) [] s := by
  have hA : AOk (A.over (.func (fBody (stmtAt 6)) (envG Lg pm cd)) []) 0 := over_aok hA0 hA1 hA2 rfl (Nat.le_of_ble_eq_true rfl) (Nat.le_of_ble_eq_true rfl)
  let T := TG prog w K mg mb C (A.over (.func (fBody (stmtAt 6)) (envG Lg pm cd)) []) Lg pm cd
  have O : T.Ok := { E0, hA with }
  refine seg_func (seg_stmt (wpAny_Assign_Name (ev_none (T := T) O s _ _ F fun u s1 F1 K1 R1 => st_name (T := T) O F1 R1 (fun s2 F2 K2 => ?_) (.inl rfl)) rfl))
  refine seg_execs_cons (seg_For ?_)
  refine ev_name (T := T) (x := "grouping") (d := .py (.list (zs.map .int))) rfl rfl rfl O s2 _ _ F2 fun v s3 F3 K3 R3 => ?_
  obtain ⟨l, vs, rfl, hx, hl, ra⟩ := Rd.list_inv R3
  have hne : l ≠ s3.heap.objs.size := fun z => by subst z; obtain ⟨o, ho, _⟩ := hl; rw [size_none] at ho; cases ho
  refine wpAny_pyIter_list hl fun p => ?_
  have st : s3.heap.StaysIn (s3.heap.push { cls := .type "list_iterator", data := .fields #[.ref l, .int 0 0] }) := fun b o e => Heap.get?_push_of_some _ e
  have F4 := F3.step E0 (.of_stays st) (tk := s3.toks)
  refine seg_loop G E0 hW hA0 hA1 hA2 (fun n s₀ s h => ⟨seg_end (.ok (.ret .none)) ⟨rfl, h⟩, seg_end (.ok (.ret .none)) ⟨rfl, h⟩⟩) N 0 0 none l vs _ _ hN rfl rfl (fun _ => h0) (F4.sub (.cons rfl .nil)) ⟨⟨_, Heap.get?_push_size _ rfl, rfl, rfl⟩, hl.push _, Rd.intsAre ra, new_off F3, new_s0 F3, hx, hne⟩ ?_
  refine (((Kg.ke K1).trans ⟨fun b o n _ e => K2.heap b o (fun q => n (hW _ q.1)) e, K2.gens⟩).trans (.ke K3)).trans (Kg.step (tk := s3.toks) fun b o _ _ e => st b o e)
end

section
variable {T : Tx} {ρ : Rho}

abbrev Cx.gen (C : Cx) (Lg : Addr) : Cx := ⟨fun a => C.X a ∨ a = Lg, (· = Lg), C.s₀⟩
theorem gen_eok (O : T.Ok) {Lg : Addr} {pm cd : Value} (h0 : T.C.s₀.heap.get? Lg = none) : EOk T.K T.mg T.mb (T.C.gen Lg) (envG Lg pm cd) :=
  ⟨O.md, rfl, rfl, rfl, rfl, fun a h => .inr h, fun a h => (show a = Lg from h) ▸ h0, (fun x c h => by cases h), (fun x y c h => by cases h), (fun x c h => by cases h)⟩

/-- the consumer leaves the generator's state -/
theorem FB.other {C : Cx} {env : Env} {s s' : Shared} (hcl : ∀ x, env.cells.lookup x = none) (F : FB C env ρ s) (S : St C s') (keep : ∀ b o, b = env.locals ∨ ¬ C.X b → s.heap.get? b = some o → s'.heap.get? b = some o) : FB C env ρ s' := by
  refine ⟨S, fun x c hc => (by rw [hcl] at hc; cases hc), ?_⟩
  obtain ⟨m, ⟨o, es, ep, ho, r⟩, hv⟩ := F.fr
  refine ⟨m, ⟨o, es, ep, keep _ _ (.inl rfl) ho, r⟩, fun x d hx => ?_⟩
  obtain ⟨v, h1, h2⟩ := hv x d hx
  refine ⟨v, ?_, h2.mono (.of fun b o n e => keep b o (.inr n) e)⟩
  rcases h1 with h1 | ⟨_, c, hc, _⟩
  · exact .inl h1
  · rw [hcl] at hc; cases hc
theorem GI.other {C : Cx} {Lg : Addr} {pm cd : Value} {zs : List Int} {st : GS} {I l : Addr} {vs : List Value} {s s' : Shared} (g : GI C (envG Lg pm cd) zs st I l vs s) (S : St C s') (keep : ∀ b o, b = Lg ∨ ¬ C.X b → s.heap.get? b = some o → s'.heap.get? b = some o) : GI C (envG Lg pm cd) zs st I l vs s' := by
  cases st with
  | start => exact FB.other (fun _ => rfl) g S keep
  | «at» i => exact ⟨FB.other (fun _ => rfl) g.1 S keep, g.2.keeps fun b o n e => keep b o (.inr n) e⟩
  | rep v => exact FB.other (fun _ => rfl) g S keep
theorem GI.st {C : Cx} {env : Env} {zs : List Int} {st : GS} {I l : Addr} {vs : List Value} {s : Shared} (g : GI C env zs st I l vs s) : St C s := by
  cases st with
  | start => exact FB.toSt g
  | «at» i => exact g.1.toSt
  | rep v => exact FB.toSt g
theorem bare_set {gens : Array GenState} {g : Nat} {x : GenState} (h : AllBare gens) (hx : x.bare = true) : AllBare (gens.setIfInBounds g x) := by
  intro y hy
  rcases Array.mem_or_eq_of_mem_setIfInBounds hy with h' | h'
  · exact h y h'
  · exact h' ▸ hx
theorem St.setGen {C : Cx} {s : Shared} {g : Nat} {x : GenState} (S : St C s) (hg : C.s₀.gens[g]? = none) (hx : x.bare = true) : St C (s.setGen g x) := by
  refine ⟨S.old, S.os, S.drawn, fun i y e => ?_, bare_set S.bare hx, S.xin⟩
  have hne : g ≠ i := fun z => by rw [z, e] at hg; cases hg
  show (s.gens.setIfInBounds g x)[i]? = some y
  rw [Array.getElem?_setIfInBounds_ne hne]; exact S.gens i y e
/-- the generator leaves the consumer's frame -/
theorem FB.kg {C : Cx} {env : Env} {s s2 : Shared} {Lg : Addr} {K : Frag} {mg mb : Str → Option Value} (E : EOk K mg mb C env) (F : FB C env ρ s) (hLg : env.locals ≠ Lg) (hcg : ∀ x c, env.cells.lookup x = some c → c ≠ Lg) (hXg : C.X Lg) (k : ∀ b o, b ≠ Lg → ¬ IterObj o → s.heap.get? b = some o → s2.heap.get? b = some o) (S : St C s2) : FB C env ρ s2 := by
  have no_d : ∀ {o : Obj} {es : Array DictEntry} {n : Nat}, o.data = .dict es n → ¬ IterObj o := fun h ⟨_, vs, h'⟩ => by rw [h] at h'; cases h'
  have no_c : ∀ {o : Obj} {v : Option Value}, o.data = .cell v → ¬ IterObj o := fun h ⟨_, vs, h'⟩ => by rw [h] at h'; cases h'
  refine ⟨S, fun x c hc => ?_, ?_⟩
  · obtain ⟨v, o, ho, hd⟩ := F.cl x c hc
    exact ⟨v, o, k c o (hcg x c hc) (no_c hd) ho, hd⟩
  · obtain ⟨m, ⟨o, es, ep, ho, hd, r⟩, hv⟩ := F.fr
    refine ⟨m, ⟨o, es, ep, k _ _ hLg (no_d hd) ho, hd, r⟩, fun x d hx => ?_⟩
    obtain ⟨v, h1, h2⟩ := hv x d hx
    refine ⟨v, ?_, h2.mono fun b o n r e => k b o (fun z => n (z ▸ hXg)) (fun ⟨hc, _⟩ => not_rel hc (by decide) (by decide) (by decide) r) e⟩
    rcases h1 with h1 | ⟨h1, c, hc, ⟨o, ho, hd⟩, h4⟩
    · exact .inl h1
    · exact .inr ⟨h1, c, hc, ⟨o, k c o (hcg x c hc) (no_c hd) ho, hd⟩, h4⟩

theorem okGrp {K : Frag} (H : FnAt K 101 (stmtAt 6) "_grouping_intervals") : ∃ pm cd o, K.lookup 101 = some o ∧ o.data = .func (fdOf (stmtAt 6) "_grouping_intervals" pm cd) ∧ codeIn K cd "_grouping_intervals" = true := H.ex

/-- for x in _grouping_intervals(e): .. -/
theorem ex_forG {x : Str} {px np cp pos : Pos} {e : Expr} {body rest : List Stmt} {zs : List Int} {Q : Flow → Shared → Prop} {E : Value → Shared → Prop} {s : Shared} (ρs : Nat → Rho) (N : Nat) (P : Nat → Prop) (hP0 : P 0)
    (G : GOk T.mg T.mb) (HF : FnAt T.K 101 (stmtAt 6) "_grouping_intervals") (hkeep : keepIn T.K (.ref 101) = true) (hroom : T.A.depth + 10 < recursionLimit) (hunits : T.A.units + 130 < cLine)
    (O : T.Ok) (F : FB T.C T.env (ρs 0) s) (he : EV T (ρs 0) e (.py (.list (zs.map .int)))) (h0 : zs[0]? ≠ some 0) (hN : 0 < N) (hx : STO T x) (hgk : T.env.kindOf "_grouping_intervals" = some .globalImplicit)
    (turn : ∀ Lg (j : Nat) z st, outAt zs j = some (z, st) → j < N → P j → ({ T with C := T.C.more (· = Lg) } : Tx).Ok → ∀ s' E', FB (T.C.more (· = Lg)) T.env ((x, .py (.int z)) :: ρs j) s' →
      wpAny (model T.prog T.w) T.A (execs body T.env) (fun fl s'' => match fl with
        | .next | .cont => (j + 1 < N ∧ P (j + 1)) ∧ FB (T.C.more (· = Lg)) T.env (ρs (j + 1)) s'' ∧ Kw T.C.W s' s''
        | .brk => wpAny (model T.prog T.w) T.A (execs rest T.env) Q E s''
        | .ret v => Q (.ret v) s'') E' s')
    (done : ∀ (j : Nat), outAt zs j = none → j < N → P j → ∀ s', FB T.C T.env (ρs j) s' → wpAny (model T.prog T.w) T.A (execs rest T.env) Q E s')
    (hce : eval (.Call (.Name "_grouping_intervals" np) [e] [] cp) T.env = (do callWith cp (← eval (.Name "_grouping_intervals" np) T.env) [] (backTo cp (starEach [e] T.env)) (backToKw cp (keywordEach [] T.env))) := by rfl) (hp : starEach [e] T.env = [(false, eval e T.env)] := by rfl)
    (hs : ∀ v, foldedSetIterable (.Call (.Name "_grouping_intervals" np) [e] [] cp) T.env v = pure v := by intro _; rfl) (ht : ∀ it v, letOwnedTupleGo (.Name x px) it v = pure () := by intro _ _; rfl) :
    wpAny (model T.prog T.w) T.A (execs (.For (.Name x px) (.Call (.Name "_grouping_intervals" np) [e] [] cp) body [] pos :: rest) T.env) Q E s := by
  have hpa : (starEach [e] T.env).any (·.1) = false := by rw [hp]; rfl
  obtain ⟨pm, cd, o, hK, hd, hcd⟩ := okGrp HF
  refine wpAny_execs_cons (wpAny_For ?_ hs)
  rw [hce]
  refine wpAny_bind (ev_glob (v := .ref 101) G.grp hgk rfl O s _ _ F fun v s1 F1 K1 R1 => ?_)
  obtain rfl : v = .ref 101 := R1
  refine callWith_of (P := T.K.In) (by rw [plain_any hpa]; rfl) (keeps_K hkeep) ?_
  refine evalArgs_of hpa (evs_cons he evs_nil hp O cp s1 _ _ F1 fun vs s2 F2 K2 R2 => ⟨O.md.kin.keeps F2.old, ?_⟩)
  obtain ⟨v, rfl, r2⟩ := R2.one
  have M2 := O.md.keeps F2.old
  refine wpAny_call (codeAny_call_generator (by omega) (M2.kin _ _ hK) hd rfl rfl rfl (codeRec_of M2.kin hcd) ?_)
  show wpAny _ _ (bindArgs (fdOf (stmtAt 6) "_grouping_intervals" pm cd) ⟨[v], []⟩) _ _ _
  rw [show bindArgs (fdOf (stmtAt 6) "_grouping_intervals" pm cd) ⟨[v], []⟩ = pure [(("grouping" : Str), v)] from rfl]
  refine wpAny_pure (wpAny_newFunctionEnv_cells rfl (fun y hy => ?_) fun env henv s3 I3 => ?_)
  · rw [List.mem_singleton.mp hy]; exact .inl rfl
  subst henv
  have hkeep3 : s2.heap.StaysIn s3.heap := I3.toInCall.keep
  refine ⟨M2.nolim.keeps hkeep3, ?_⟩
  obtain ⟨h3, tk3, es3⟩ := I3.toInCall.same
  have hns3 : s3.heap.Ns s2.heap.objs.size _ := I3.toInCall.ns
  generalize hLg : s2.heap.objs.size = Lg at hns3 I3
  change s3.heap.Ns Lg (bindL (envG Lg pm cd).kindOf [(("grouping" : Str), v)] fun _ => none) at hns3
  have hLn2 : s2.heap.get? Lg = none := hLg ▸ size_none _
  have hXLg : ¬ T.C.X Lg := none_off F2 hLn2
  have hWLg : ¬ T.C.W Lg := fun q => hXLg (O.wx _ q)
  have hL0 : T.C.s₀.heap.get? Lg = none := hLg ▸ new_s0 F2
  have hLL : T.env.locals ≠ Lg := fun z => hXLg (z ▸ O.wx _ O.wl)
  have hcL : ∀ y c, T.env.cells.lookup y = some c → c ≠ Lg := fun y c hc z => hXLg (z ▸ O.cx y c hc)
  have O' : ({ T with C := T.C.more (· = Lg) } : Tx).Ok := { O.toEOk.more (· = Lg), O.toAOk with }
  have E0 := gen_eok O (Lg := Lg) (pm := pm) (cd := cd) hL0
  -- the generator object
  generalize ha : s3.heap.objs.size = a
  have han : s3.heap.get? a = none := ha ▸ size_none _
  have ha2 : s2.heap.get? a = none := by
    cases q : s2.heap.get? a with
    | none => rfl
    | some o => have := hkeep3 a o q; rw [han] at this; cases this
  have hXa : ¬ T.C.X a := none_off F2 ha2
  have ha0 : T.C.s₀.heap.get? a = none := by
    cases q : T.C.s₀.heap.get? a with
    | none => rfl
    | some o => have := F2.old a o q; rw [ha2] at this; cases this
  have hg3 : s3.gens = s2.gens := by rw [es3]
  generalize hg : s3.gens.size = g
  have hg0 : T.C.s₀.gens[g]? = none := by
    cases q : T.C.s₀.gens[g]? with
    | none => rfl
    | some y =>
      have := F2.gens g y q
      rw [← hg3, ← hg] at this
      rw [Array.getElem?_eq_none (Nat.le_refl _)] at this; cases this
  generalize hs4 : ({ s3 with gens := s3.gens.push (.fresh (.func (fBody (stmtAt 6)) (envG Lg pm cd))), toks := s3.toks + 1 + 1, heap := s3.heap.push { cls := .type "generator", data := .fields #[.int g 0, .str (fName (stmtAt 6)) s3.toks, .str "_grouping_intervals" (s3.toks + 1)] } } : Shared) = s4
  have hst4 : s3.heap.StaysIn s4.heap := fun b o e => by rw [← hs4]; exact Heap.get?_push_of_some _ e
  have hgen4 : s4.heap.IsGen a g := by rw [← hs4, ← ha]; exact ⟨_, _, _, Heap.get?_push_size _ rfl, rfl, rfl, rfl⟩
  have hgs4 : s4.gens[g]? = some (.fresh (.func (fBody (stmtAt 6)) (envG Lg pm cd))) := by rw [← hs4, ← hg]; exact Array.getElem?_push_size ..
  have gb : Gb a s2 s4 := by
    refine ⟨fun b o _ e => hst4 b o (hkeep3 b o e), ?_, ?_, fun i y e => ?_, fun hb => ?_⟩
    · rw [← hs4]; show s3.os = s2.os; rw [es3]
    · rw [← hs4]; show s3.drawn = s2.drawn; rw [es3]
    · rw [← hs4]
      show (s3.gens.push _)[i]? = some y
      rw [hg3, Array.getElem?_push, if_neg]
      · exact e
      · intro z; rw [z, Array.getElem?_eq_none (Nat.le_refl _)] at e; cases e
    · rw [← hs4]; show AllBare (s3.gens.push _); rw [hg3]; exact hb.push rfl
  have F4 : FB (T.C.more (· = Lg)) T.env (ρs 0) s4 := F2.fresh O.toEOk (· = Lg) rfl (fun a => Iff.rfl) (fun b hb => (show b = Lg from hb) ▸ hLn2) (fun b hb => by
    obtain ⟨o, _, _, ho, _⟩ := hns3
    exact ⟨o, (show b = Lg from hb) ▸ hst4 _ _ ho⟩) hXa ha0 (fun o ho => by rw [ha2] at ho; cases ho) gb
  have GI4 : GI (T.C.gen Lg) (envG Lg pm cd) zs .start 0 0 [] s4 := by
    refine ⟨⟨F4.old, F4.os, F4.drawn, F4.gens, F4.bare, F4.xin⟩, (fun x c h => by cases h), _, hns3.keeps hst4, fun y d hy => ?_⟩
    rw [List.lookup_cons] at hy
    split at hy
    · rename_i q
      cases hy
      obtain rfl : y = "grouping" := by simpa using q
      refine ⟨v, .inl ⟨rfl, rfl⟩, ?_⟩
      refine (RdT.vol (X' := (T.C.gen Lg).X) (fun b o ho hb => ?_) r2).mono (.of_stays fun b o e => hst4 b o (hkeep3 b o e))
      rcases hb with hb | hb
      · exact hb
      · rw [hb, hLn2] at ho; cases ho
    · cases hy
  suffices hmain : wpAny (model T.prog T.w) T.A (pyIter (.ref a)) (fun it s₂ => codeAny (model T.prog T.w) T.A (.forLoop (.Name x px) it body [] T.env) (fun r s' => match r with
      | .ok f => (match f with | .next => wpAny (model T.prog T.w) T.A (execs rest T.env) Q E s' | f => Q f s')
      | .error e => cameBackBy (model T.prog T.w) T.A T.env E e s') s₂) E s4 by subst hs4; exact hmain
  refine wpAny_pyIter_gen hgen4 ?_
  clear hs4
  have hAin : T.A.in1.handled = none := O.handled
  have hA1 : T.A.in1.depth + 5 < recursionLimit := by show T.A.depth + 5 < _; omega
  have hA2 : T.A.in1.units + 120 < cLine := by show T.A.units + 1 + 120 < _; omega
  let Inv : Nat → Shared → Prop := fun j s => (j < N ∧ P j) ∧ FB (T.C.more (· = Lg)) T.env (ρs j) s ∧ s.heap.IsGen a g ∧ ∃ st gs I l vs, stAt zs j = some st ∧ s.gens[g]? = some gs ∧ GI (T.C.gen Lg) (envG Lg pm cd) zs st I l vs s ∧
    ∀ s'', GI (T.C.gen Lg) (envG Lg pm cd) zs st I l vs s'' → gs.Goes (model T.prog T.w) T.A.in1 (RG (T.C.gen Lg) zs Lg N) (YG (T.C.gen Lg) (envG Lg pm cd) zs Lg N) (N - j) (.send .none) s''
  refine codeAny_forLoop (fun n s => ∃ j, n = N - j ∧ Inv j s) ?_ N ⟨0, rfl, ⟨hN, hP0⟩, F4, hgen4, .start, _, 0, 0, [], rfl, hgs4, GI4, fun s'' g'' => ⟨rfl, seg_start G E0 (fun a h => h) hAin hA1 hA2 h0 hN g''⟩⟩ (ht _)
  rintro n s5 ⟨j, rfl, ⟨hj, hPj⟩, F5, hgen5, st, gs, I, l, vs, hst, hgs5, GI5, hgo⟩
  have hgenX : ∀ {s s' : Shared}, s.heap.IsGen a g → (∀ b o, b ≠ Lg → ¬ IterObj o → s.heap.get? b = some o → s'.heap.get? b = some o) → s'.heap.IsGen a g := fun {s s'} h k => by
    obtain ⟨o, nm, qn, ho, hc, hd, hsl⟩ := h
    refine ⟨o, nm, qn, k a o ?_ (fun q => absurd (Value.type.inj (hc.symm.trans q.1)) (by decide)) ho, hc, hd, hsl⟩
    intro z
    obtain ⟨o', _, _, ho', _⟩ := id hns3
    rw [z] at han; rw [han] at ho'; cases ho'
  have Sg5 : St (T.C.gen Lg) s5 := GI5.st
  have S6 : ∀ x : GenState, x.bare = true → St (T.C.gen Lg) (s5.setGen g x) := fun x hx => Sg5.setGen hg0 hx
  refine pyNext_gen (n := N - j) O.handled ((O.md.keeps F5.old).nolim) (by omega) hgen5 hgs5 (hgo _ (GI5.other (S6 _ rfl) fun b o _ e => e)) (fun u s6 gs' hb hY => ?_) (fun r6 s6 hr6 => ⟨hr6.1, fun h' hk' => ?_⟩)
  · obtain ⟨z, st', t, I', l', vs', hout, rfl, kg, gi, hnext⟩ := hY
    rw [show N - 1 - (N - j - 1) = j by omega] at hout
    have S7 : St (T.C.gen Lg) (s6.setGen g gs') := gi.st.setGen hg0 hb
    have S7' : St (T.C.more (· = Lg)) (s6.setGen g gs') := ⟨S7.old, S7.os, S7.drawn, S7.gens, S7.bare, S7.xin⟩
    have k7 : ∀ b o, b ≠ Lg → ¬ IterObj o → s5.heap.get? b = some o → (s6.setGen g gs').heap.get? b = some o := fun b o n i e => kg.heap b o n (fun _ => i) e
    have F7 : FB (T.C.more (· = Lg)) T.env (ρs j) (s6.setGen g gs') := F5.kg O'.toEOk hLL hcL (.inr rfl) k7 S7'
    have gi7 := gi.other S7 fun b o _ e => e
    have gen7 := hgenX hgen5 k7
    have hgs7 : (s6.setGen g gs').gens[g]? = some gs' := setGen_self (kg.gens g _ (setGen_self hgs5))
    refine wpAny_assign_Name (st_name (T := { T with C := T.C.more (· = Lg) }) O' F7 (d := .py (.int z)) (Rd.int _ _) (fun s8 F8 K8 => ?_) hx)
    have keepW : ∀ {s s' : Shared}, Kw T.C.W s s' → ∀ b o, b = Lg ∨ ¬ (T.C.gen Lg).X b → s.heap.get? b = some o → s'.heap.get? b = some o := fun {s s'} k b o h e => k.heap b o (fun q => by
      rcases h with h | h
      · exact hWLg (h ▸ q)
      · exact h (.inl (O.wx _ q))) e
    have K8' : Kw T.C.W (s6.setGen g gs') s8 := K8.mono fun b q => q.1
    have genW : ∀ {s s' : Shared}, Kw T.C.W s s' → s.heap.IsGen a g → s'.heap.IsGen a g := fun {s s'} k h => by
      obtain ⟨o, nm, qn, ho, r⟩ := h
      exact ⟨o, nm, qn, k.heap a o (fun q => hXa (O.wx _ q)) ho, r⟩
    have gi8 := gi7.other ⟨F8.old, F8.os, F8.drawn, F8.gens, F8.bare, F8.xin⟩ (keepW K8')
    refine wpAny_mono (turn Lg j z st' hout hj hPj O' s8 _ F8) (fun fl s9 h9 => ?_) fun _ _ e => e
    have fin : (j + 1 < N ∧ P (j + 1)) ∧ FB (T.C.more (· = Lg)) T.env (ρs (j + 1)) s9 ∧ Kw T.C.W s8 s9 → ∃ m, m < N - j ∧ ∃ j', m = N - j' ∧ Inv j' s9 := by
      rintro ⟨hj1, F9, K9⟩
      have hjl := hj1.1
      refine ⟨N - (j + 1), by omega, j + 1, rfl, hj1, F9, genW K9 (genW K8' gen7), st', gs', I', l', vs', ?_, K9.gens g _ (K8'.gens g _ hgs7), gi8.other ⟨F9.old, F9.os, F9.drawn, F9.gens, F9.bare, F9.xin⟩ (keepW K9), fun s'' g'' => ?_⟩
      · simp only [stAt, hst, Option.bind_some]
        have : genStep zs st = some (z, st') := by unfold outAt at hout; rw [hst, Option.bind_some] at hout; exact hout
        rw [this]; rfl
      · have h1 := hnext (by omega) s'' g''
        obtain ⟨m, hm⟩ : ∃ m, N - j = m + 1 := ⟨N - j - 1, by omega⟩
        rw [hm] at h1
        rw [show N - (j + 1) = m by omega]; exact h1
    cases fl with
    | next => exact fin h9
    | cont => exact fin h9
    | brk => exact h9
    | ret v => exact h9
  · obtain ⟨hnone, kg, S⟩ := hr6.2
    rw [show N - (N - j) = j by omega] at hnone
    have S7 : St (T.C.more (· = Lg)) { s6.setGen g .finished with heap := h' } := by
      have := S.setGen (x := .finished) hg0 rfl
      exact ⟨fun b o e => hk' b o (this.old b o e), this.os, this.drawn, this.gens, this.bare, fun b hb => by obtain ⟨o, ho⟩ := this.xin b hb; exact ⟨o, hk' b o ho⟩⟩
    have F7 : FB (T.C.more (· = Lg)) T.env (ρs j) { s6.setGen g .finished with heap := h' } := F5.kg O'.toEOk hLL hcL (.inr rfl) (fun b o n i e => hk' b o (kg.heap b o n (fun _ => i) e)) S7
    exact wpAny_execs_nil (done j hnone hj hPj _ (F7.less O.toEOk rfl fun b hb => .inl hb))
end
end Mine

end
section
open PySem PySem.W PyProof.Rows
set_option Elab.async false
set_option maxRecDepth 100000
set_option maxHeartbeats 0
namespace Mine
theorem clsOk (P : Params) : ClsOk (Mine.hd.heap_39 P) := by
  suffices h : PySem.Challenge.rw_pu0031_01 = PySem.Challenge.rw_pu0031_01 → ClsOk (Mine.hd.heap_39 P) from h rfl
  k_fill
  intro _
  refine ⟨?_, ?_, ?_, ?_, ?_, ?_, ?_, ?_, ?_, ?_, ?_, ?_, ?_, ?_, ?_, ?_, ?_, ?_, ?_, ?_, ?_, ?_, ?_, ?s, ?t⟩
  case s => exact ⟨_, by with_unfolding_all rfl⟩
  case t => exact ⟨_, by with_unfolding_all rfl⟩
  all_goals k_is
end Mine

end
section
set_option Elab.async false
set_option maxRecDepth 100000
set_option autoImplicit false
set_option linter.unusedVariables false
set_option linter.unusedSimpArgs false
namespace Mine
open PySem PySem.W PyProof.Rows PySem.Calls PySem.SeqAt

/-! texts as lists of signs -/
def mkS (l : List Nat) : Str := ⟨l.toArray⟩
theorem mkS_len (l : List Nat) : (mkS l).length = l.length := by show l.toArray.size = _; simp
theorem pick_range (l : List Nat) (a n : Nat) (h : a + n ≤ l.length) : ((List.range n).map fun k => a + k).filterMap (l.toArray[·]?) = (l.drop a).take n := by
  induction n with
  | zero => simp
  | succ n ih =>
    rw [List.range_succ, List.map_append, List.filterMap_append, ih (by omega), List.take_add_one]
    congr 1
    have hlt : a + n < l.length := by omega
    simp [List.getElem?_drop, hlt]
theorem idx_to (k n : Nat) : Builtin.Str.strSliceIndices none (some (k : Int)) 1 n = (List.range (min k n)).map fun i => 0 + i := by
  unfold Builtin.Str.strSliceIndices sliceRange
  have h1 : (1 : Int) > 0 := by decide
  simp only [h1, if_true, Int.ediv_one]
  have e : (if (k : Int) < 0 then (k : Int) + n else k) = k := if_neg (by omega)
  rw [e]
  have e2 : (if 0 < max 0 (min (k : Int) n) then max 0 (min (k : Int) n) - 0 + 1 - 1 else 0).toNat = min k n := by split <;> omega
  rw [e2]
  apply List.map_congr_left
  intro i _
  omega
theorem idx_from (k n : Nat) : Builtin.Str.strSliceIndices (some (k : Int)) none 1 n = (List.range (n - min k n)).map fun i => min k n + i := by
  unfold Builtin.Str.strSliceIndices sliceRange
  have h1 : (1 : Int) > 0 := by decide
  simp only [h1, if_true, Int.ediv_one]
  have e : (if (k : Int) < 0 then (k : Int) + n else k) = k := if_neg (by omega)
  rw [e]
  have e2 : (if max 0 (min (k : Int) n) < n then (n : Int) - max 0 (min (k : Int) n) + 1 - 1 else 0).toNat = n - min k n := by split <;> omega
  rw [e2]
  apply List.map_congr_left
  intro i _
  omega
theorem slice_to (l : List Nat) (k : Nat) : Txt.slice (mkS l) none (some (k : Int)) = mkS (l.take k) := by
  unfold Txt.slice
  rw [mkS_len, idx_to]
  split
  · rename_i h
    simp at h
    rw [List.take_of_length_le (by omega)]
  · show Str.mk _ = Str.mk _
    have := pick_range l 0 (min k l.length) (by omega)
    have e : l.take (min k l.length) = l.take k := by
      by_cases hk : k ≤ l.length
      · rw [Nat.min_eq_left hk]
      · rw [Nat.min_eq_right (by omega), List.take_of_length_le (Nat.le_refl _), List.take_of_length_le (by omega)]
    rw [List.drop_zero, e] at this
    rw [show (mkS l).cps = l.toArray from rfl, this]
theorem slice_from (l : List Nat) (k : Nat) : Txt.slice (mkS l) (some (k : Int)) none = mkS (l.drop k) := by
  unfold Txt.slice
  rw [mkS_len, idx_from]
  split
  · rename_i h
    simp at h
    by_cases z : l = []
    · subst z; simp
    · have : 0 < l.length := List.length_pos_iff.mpr z
      have : k = 0 := by omega
      subst this; rfl
  · show Str.mk _ = Str.mk _
    have := pick_range l (min k l.length) (l.length - min k l.length) (by omega)
    rw [show (mkS l).cps = l.toArray from rfl, this]
    by_cases hk : k ≤ l.length
    · rw [Nat.min_eq_left hk, List.take_of_length_le (by simp)]
    · rw [Nat.min_eq_right (by omega)]; simp [List.drop_of_length_le (show l.length ≤ k by omega)]

/-! where a line stands along a ruler: the plain account -/
def wsL (l : List Nat) : WS := runS l ⟨[], 0, 0, 0⟩
theorem wsOf_mkS (l : List Nat) : wsOf (mkS l) = wsL l := by simp [wsOf, wsL, mkS]
def indL (l : List Nat) (ts : Nat) : Int := indD (wsL l).count (wsL l).b (wsL l).nt ts
def upTo (p : Nat → Bool) : Nat → Nat → Nat
  | 0, i => i
  | f + 1, i => if p i then upTo p f (i + 1) else i
theorem upTo_spec (p : Nat → Bool) : ∀ f i, p (i + f) = false → i ≤ upTo p f i ∧ upTo p f i ≤ i + f ∧ (∀ j, i ≤ j → j < upTo p f i → p j = true) ∧ p (upTo p f i) = false
  | 0, i, h => ⟨Nat.le_refl _, Nat.le_refl _, fun j h1 h2 => absurd h2 (Nat.not_lt.mpr h1), h⟩
  | f + 1, i, h => by
    unfold upTo
    split
    · rename_i hp
      obtain ⟨h1, h2, h3, h4⟩ := upTo_spec p f (i + 1) (by rw [Nat.add_assoc, Nat.add_comm 1]; exact h)
      refine ⟨by omega, by omega, fun j hj hlt => ?_, h4⟩
      by_cases z : j = i
      · subst z; exact hp
      · exact h3 j (by omega) hlt
    · rename_i hp
      exact ⟨Nat.le_refl _, by omega, fun j h1 h2 => absurd h2 (Nat.not_lt.mpr h1), by simpa using hp⟩
/-- the while loop's test when k is 1 + i -/
def tstL (l : List Nat) (size : Nat) (i : Nat) : Bool := decide (1 + i ≤ l.length) && decide (indL (l.take (1 + i)) size < size)
def kN (l : List Nat) (size : Nat) : Nat := upTo (tstL l size) l.length 0
theorem kN_spec (l : List Nat) (size : Nat) : kN l size ≤ l.length ∧ (∀ i, i ≤ kN l size → tstL l size i = decide (i < kN l size)) := by
  obtain ⟨_, h2, h3, h4⟩ := upTo_spec (tstL l size) l.length 0 (by unfold tstL; rw [decide_eq_false (by omega)]; rfl)
  refine ⟨by unfold kN; omega, fun i hi => ?_⟩
  by_cases z : i < kN l size
  · rw [decide_eq_true z]; exact h3 i (Nat.zero_le _) z
  · have : i = kN l size := by omega
    rw [this, decide_eq_false (Nat.lt_irrefl _)]; exact h4
def standG (zs : List Int) : Nat → Nat → List Nat → Int → Int
  | 0, _, _, col => col
  | f + 1, j, l, col => match outAt zs j with
    | none => col + indL l 1
    | some (z, _) => if 1 + kN l z.toNat > l.length then col + indL l z.toNat else standG zs f (j + 1) (l.drop (1 + kN l z.toNat)) (col + z)
def standD (l : List Nat) (zs : List Int) : Int := standG zs (l.length + 1) 0 l 0
/-- the line and the column ahead of the j-th turn -/
def runAt (zs : List Int) (l : List Nat) : Nat → List Nat × Int
  | 0 => (l, 0)
  | j + 1 => match outAt zs j with
    | none => runAt zs l j
    | some (z, _) => ((runAt zs l j).1.drop (1 + kN (runAt zs l j).1 z.toNat), (runAt zs l j).2 + z)

def goodZ (zs : List Int) : Prop := zs[0]? ≠ some 0 ∧ ∀ z ∈ zs, 0 ≤ z ∧ z ≤ 100000
def goodS (zs : List Int) : GS → Prop
  | .start => True
  | .at i => 1 ≤ zs.getD i 0 ∧ zs.getD i 0 ≤ 100000
  | .rep v => 1 ≤ v ∧ v ≤ 100000
theorem next_good {zs : List Int} (hz : goodZ zs) {i : Nat} {last : Option Int} (hl : ∀ v, last = some v → 1 ≤ v ∧ v ≤ 100000) {z : Int} {st : GS} (h : nextFrom zs i last = some (z, st)) : (1 ≤ z ∧ z ≤ 100000) ∧ goodS zs st := by
  unfold nextFrom at h
  cases q : zs[i]? with
  | none => rw [q] at h; cases h
  | some y =>
    rw [q] at h
    dsimp only at h
    split at h
    · cases h
    · split at h
      · obtain ⟨v, hv, e⟩ := Option.map_eq_some_iff.mp h
        simp only [Prod.mk.injEq] at e
        rw [← e.1, ← e.2]
        exact ⟨hl v hv, hl v hv⟩
      · rename_i h0
        simp only [Option.some.injEq, Prod.mk.injEq] at h
        rw [← h.1, ← h.2]
        have := hz.2 y (List.mem_of_getElem? q)
        have hg : zs.getD i 0 = y := by simp [List.getD, q]
        have h1 : 1 ≤ y ∧ y ≤ 100000 := ⟨by omega, this.2⟩
        exact ⟨h1, by show 1 ≤ zs.getD i 0 ∧ zs.getD i 0 ≤ 100000; rw [hg]; exact h1⟩
theorem st_good {zs : List Int} (hz : goodZ zs) : ∀ j st, stAt zs j = some st → goodS zs st
  | 0, st, h => by cases h; trivial
  | j + 1, st, h => by
    simp only [stAt] at h
    obtain ⟨st', h1, h2⟩ := Option.bind_eq_some_iff.mp h
    obtain ⟨⟨z, st''⟩, h3, rfl⟩ := Option.map_eq_some_iff.mp h2
    have g := st_good hz j st' h1
    cases st' with
    | start => exact (next_good hz (fun v h => by cases h) h3).2
    | «at» i => exact (next_good hz (fun v h => by cases h; exact g) h3).2
    | rep v => cases h3; exact g
theorem out_good {zs : List Int} (hz : goodZ zs) {j : Nat} {z : Int} {st : GS} (h : outAt zs j = some (z, st)) : 1 ≤ z ∧ z ≤ 100000 := by
  unfold outAt at h
  obtain ⟨st', h1, h3⟩ := Option.bind_eq_some_iff.mp h
  have g := st_good hz j st' h1
  cases st' with
  | start => exact (next_good hz (fun v h => by cases h) h3).1
  | «at» i => exact (next_good hz (fun v h => by cases h; exact g) h3).1
  | rep v => cases h3; exact g
end Mine

end
section
set_option Elab.async false
set_option maxRecDepth 100000
set_option autoImplicit false
set_option linter.unusedVariables false
set_option linter.unusedSimpArgs false
namespace Mine
open PySem PySem.W PyProof.Rows PySem.Calls PySem.SeqAt

/-- the text's function objects and what is looked up of them -/
structure KOk (K : Frag) : Prop where
  cls : ClsOk K
  init : FnAt K 38 (methAt 1) "Whitespace.__init__"
  long : FnAt K 45 (methAt 2) "Whitespace.longest_run_of_spaces"
  indent : FnAt K 52 (methAt 3) "Whitespace.indent_level"
  equal : FnAt K 59 (methAt 4) "Whitespace.equal"
  wit : FnAt K 66 (methAt 5) "Whitespace.not_equal_witness"
  strcoll : FnAt K 94 (stmtAt 4) "_strcoll"
  grp : FnAt K 101 (stmtAt 6) "_grouping_intervals"
  lead : FnAt K 106 (stmtAt 8) "_law_lead"
  gaps : FnAt K 111 (stmtAt 9) "_law_gaps"
  row : FnAt K 116 (stmtAt 10) "_law_row"
  stand : FnAt K 123 (stmtAt 11) "_law_stand"
  read : FnAt K 130 (stmtAt 12) "_law_read"
  pair : FnAt K 135 (stmtAt 13) "_law_pair"
  blind : FnAt K 140 (stmtAt 14) "_law_blind"
  keeps : ∀ a ∈ ([45, 52, 59, 66, 83, 94, 101, 106, 111, 116, 123, 130, 135, 140] : List Addr), keepIn K (.ref a) = true
theorem KOk.k {K : Frag} (H : KOk K) (a : Addr) (h : a ∈ ([45, 52, 59, 66, 83, 94, 101, 106, 111, 116, 123, 130, 135, 140] : List Addr) := by decide) : keepIn K (.ref a) = true := H.keeps a h

theorem okStand {K : Frag} (H : FnAt K 123 (stmtAt 11) "_law_stand") : ∃ pm cd, FnOk K 123 (fdOf (stmtAt 11) "_law_stand" pm cd) ["line", "sizes"] (fBody (stmtAt 11)) :=
  H.ok _ rfl rfl rfl (fun pm cd => two_args rfl fun a b => rfl) (by decide) (by intro x hx; rcases List.mem_cons.mp hx with rfl | hx; exact .inl rfl; rw [List.mem_singleton.mp hx]; exact .inl rfl)

theorem wsL_bound (l : List Nat) (h : l.length ≤ 200) : (wsL l).count.length ≤ 1000 := by
  have run : ∀ (l : List Nat) (st : WS) (k : Nat), st.b ≤ k → st.count.length ≤ k → (runS l st).count.length ≤ k + l.length := by
    intro l
    induction l with
    | nil => intro st k _ h2; exact h2
    | cons c r ih =>
      intro st k h1 h2
      unfold runS
      split
      · have := ih (stepS st c) (k + 1) (by unfold stepS; split <;> simp <;> omega) (by
          unfold stepS; split
          · simp; omega
          · simp [padS_len]; omega)
        simp only [List.length_cons]; omega
      · omega
  have := run l ⟨[], 0, 0, 0⟩ 0 (Nat.le_refl _) (Nat.le_refl _)
  unfold wsL; omega

section
variable {T : Tx} {ρ : Rho}
/-- Whitespace(e).indent_level(e') -/
theorem ev_indent (G : GOk T.mg T.mb) (H : KOk T.K) (O : T.Ok) (hn : 3 ≤ T.n) {np cp ap ip : Pos} {e e' : Expr} {l : List Nat} {ts : Nat} (he : EV T ρ e (.py (.str (mkS l)))) (he' : EV T ρ e' (.py (.int ts))) (hl : l.length ≤ 200) (h1 : 1 ≤ ts) (h2 : ts ≤ 100000) (hk : T.env.kindOf "Whitespace" = some .globalImplicit)
    (hs1 : starEach [e] T.env = [(false, eval e T.env)] := by rfl) (hs2 : starEach [e'] T.env = [(false, eval e' T.env)] := by rfl)
    (hc : eval (.Call (.Name "Whitespace" np) [e] [] cp) T.env = (do callWith cp (← eval (.Name "Whitespace" np) T.env) [] (backTo cp (starEach [e] T.env)) (backToKw cp (keywordEach [] T.env))) := by rfl)
    (hb : attributeBase (.Call (.Name "Whitespace" np) [e] [] cp) "indent_level" T.env (eval (.Call (.Name "Whitespace" np) [e] [] cp) T.env) = eval (.Call (.Name "Whitespace" np) [e] [] cp) T.env := by rfl) (hline : (ap.endLine == ip.line) = true := by rfl)
    (hf : methodCallForm ([e'].length + ([] : List Keyword).length) (backTo ip (starEach [e'] T.env)) (backToKw ip (keywordEach [] T.env)) = true := by rfl) :
    EV T ρ (.Call (.Attribute (.Call (.Name "Whitespace" np) [e] [] cp) "indent_level" ap) [e'] [] ip) (.py (.int (indL l ts))) := by
  refine ev_mcall (f := 52) (n := 1) (d := .ws (wsL l).count (wsL l).b (wsL l).nt) ?_ (evs_cons he' evs_nil hs2) (fun s v F r => ws_method H.cls H.cls.indent H.cls.indentF (by simp) O s v F r) (ct_indent G H.cls H.indent _ _ _ ts (wsL_bound l hl) h1 h2) (by omega) (H.k 52) hb hline hf (by rw [hs2]; rfl)
  have := ct_ws (prog := T.prog) (w := T.w) G H.cls H.init (mkS l) (by rw [mkS_len]; exact hl)
  rw [wsOf_mkS] at this
  exact ev_call (ev_glob G.ws hk) (evs_cons he evs_nil hs1) this hn (H.k 83) hc (by rw [hs1]; rfl)
end

variable {prog : Program} {w : World} {K : Frag} {mg mb : Str → Option Value}
theorem ct_stand (G : GOk mg mb) (H : KOk K) (l : List Nat) (zs : List Int) (hl : l.length ≤ 200) (hz : goodZ zs) :
    CT prog w K mg mb 11 (.ref 123) [.py (.str (mkS l)), .py (.list (zs.map .int))] (.py (.int (standD l zs))) := by
  obtain ⟨pm, cd, HO⟩ := okStand H.stand
  refine ct_def HO rfl fun X A L s₀ s E O F => ?_
  let T := Tx.mk prog w K mg mb (cxOf X (fdOf (stmtAt 11) "_law_stand" pm cd) L 123 s₀) A (callEnvC (fdOf (stmtAt 11) "_law_stand" pm cd) L 123) 10
  have hd := O.depth
  have hu := O.units
  refine ex_assign (T := T) O F ev_int (.inl rfl) fun s1 F1 K1 => ?_
  refine ex_forG (T := T) (zs := zs) (fun j => [("column", .py (.int (runAt zs l j).2)), ("line", .py (.str (mkS (runAt zs l j).1))), ("sizes", .py (.list (zs.map .int)))]) (l.length + 2)
    (fun j => (runAt zs l j).1.length + j ≤ l.length ∧ standG zs (l.length + 1 - j) j (runAt zs l j).1 (runAt zs l j).2 = standD l zs) ⟨Nat.le_refl _, rfl⟩
    G H.grp (H.k 101) (by show A.depth + 10 < _; exact hd) (by show A.units + 130 < _; have : A.units + 10 * 10 + 100 < cLine := hu; omega) O (F1.sub (.cons rfl (.cons rfl (.cons rfl .nil)))) (ev_name rfl) hz.1 (by omega) (.inl rfl) rfl
    (fun Lg j z st hout hj hP O' s2 E' F2 => ?_) (fun j hout hj hP s2 F2 => ?_)
  · obtain ⟨hz1, hz2⟩ := out_good hz hout
    obtain ⟨m, rfl⟩ : ∃ m : Nat, z = m := ⟨z.toNat, by omega⟩
    generalize hline : (runAt zs l j).1 = line at hP F2
    generalize hcol : (runAt zs l j).2 = col at hP F2
    have hlen : line.length ≤ 200 := by omega
    obtain ⟨hk1, hk2⟩ := kN_spec line m
    let T' : Tx := { T with C := T.C.more (· = Lg) }
    have evI : ∀ {ρ : Rho} {np cp ap ip sp : Pos} {e : Expr} {ln : List Nat}, EV T' ρ e (.py (.str (mkS ln))) → ρ.lookup (Str.ofString "size") = some (.py (.int m)) → ln.length ≤ 200 → (starEach [e] T'.env = [(false, eval e T'.env)]) → (ap.endLine == ip.line) = true →
        EV T' ρ (.Call (.Attribute (.Call (.Name "Whitespace" np) [e] [] cp) "indent_level" ap) [.Name "size" sp] [] ip) (.py (.int (indL ln m))) := fun h1 h2 h3 h4 h5 =>
      ev_indent (T := T') G H O' (by show 3 ≤ 10; decide) h1 (ev_name h2) h3 (by omega) (by omega) rfl h4 rfl rfl rfl h5
    refine ex_assign (T := T') O' F2 ev_int (.inl rfl) fun s3 F3 K3 => ?_
    refine ex_while (T := T') (fun i => [("k", .py (.int ((1 + i : Nat) : Int))), ("size", .py (.int m)), ("column", .py (.int col)), ("line", .py (.str (mkS line))), ("sizes", .py (.list (zs.map .int)))]) (kN line m) O' (F3.sub (.cons rfl (.cons rfl (.cons rfl (.cons rfl (.cons rfl .nil)))))) (fun i hi => ?_) (fun i hi s4 E4 F4 K4 => ?_) (fun s4 F4 K4 => ?_)
    · rw [← hk2 i hi]
      unfold tstL
      have e1 : decide (1 + i ≤ line.length) = decide (((1 + i : Nat) : Int) ≤ ((mkS line).length : Int)) := by rw [mkS_len]; simp only [Int.ofNat_le]
      rw [e1]
      refine tv_and (tv_le (ev_name rfl) (ev_lenS G (ev_name rfl) (by rw [mkS_len]; omega) rfl)) fun _ => tv_lt (evI ?_ rfl (by rw [List.length_take]; omega) rfl rfl) (ev_name rfl)
      rw [← slice_to]
      exact ev_sliceS_to (ev_name rfl) (ev_name rfl) (by rw [mkS_len, sizeLine_eq]; omega)
    · refine ex_assign (T := T') (d := .py (.int ((1 + (i + 1) : Nat) : Int))) O' F4 ?_ (.inl rfl) fun s5 F5 K5 => ex_nil (T := T') ⟨rfl, F5.sub (.cons rfl (.cons rfl (.cons rfl (.cons rfl (.cons rfl .nil))))), K5.sw⟩
      have e : ((1 + (i + 1) : Nat) : Int) = ((1 + i : Nat) : Int) + 1 := by omega
      rw [e]; exact ev_add (ev_name rfl) ev_int
    · have wl : T'.C.W T'.env.locals := O'.wl
      obtain ⟨f, hf⟩ : ∃ f, l.length + 1 - j = f + 1 := ⟨l.length - j, by omega⟩
      have hP2 := hP.2
      rw [hf] at hP2
      simp only [standG, hout, Int.toNat_natCast] at hP2
      refine ex_if (T := T') O' F4 (tv_gt (ev_name rfl) (ev_lenS G (ev_name rfl) (by rw [mkS_len]; omega) rfl)) (fun e s5 F5 K5 => ?_) (fun e s5 F5 K5 => ?_)
      · have hgt : 1 + kN line m > line.length := by rw [mkS_len] at e; simp only [decide_eq_true_eq] at e; omega
        rw [if_pos hgt] at hP2
        refine ex_return (T := T') (d := .py (.int (standD l zs))) O' F5 ?_ fun v s' F' K' R' => ⟨v, rfl, (F'.less O.toEOk rfl fun a ha => .inl ha).toSt, R'.vol fun a _ _ ha => .inl ha⟩
        rw [← hP2]
        exact ev_add (ev_name rfl) (evI (ev_name rfl) rfl hlen rfl rfl)
      · have hgt : ¬ 1 + kN line m > line.length := by rw [mkS_len] at e; simp only [decide_eq_false_iff_not] at e; omega
        rw [if_neg hgt] at hP2
        refine ex_nil (T := T') ?_
        refine ex_assign (T := T') O' F5 (ev_add (ev_name rfl) (ev_name rfl)) (.inl rfl) fun s6 F6 K6 => ?_
        refine ex_assign (T := T') (d := .py (.str (mkS (line.drop (1 + kN line m))))) O' F6 ?_ (.inl rfl) fun s7 F7 K7 => ex_nil (T := T') ?_
        · rw [← slice_from]
          exact ev_sliceS_from (ev_name rfl) (ev_name rfl) (by rw [mkS_len, sizeLine_eq]; omega)
        have hr1 : (runAt zs l (j + 1)).1 = line.drop (1 + kN line m) := by simp only [runAt, hout, hline, Int.toNat_natCast]
        have hr2 : (runAt zs l (j + 1)).2 = col + m := by simp only [runAt, hout, hcol]
        refine ⟨⟨by omega, ?_, ?_⟩, ?_, ?_⟩
        · rw [hr1, List.length_drop]; omega
        · rw [hr1, hr2, ← hP2]; congr 1; omega
        · rw [hr1, hr2]; exact F7.sub (.cons rfl (.cons rfl (.cons rfl .nil)))
        · exact ((((K3.sw).trans K4).trans (K5.kw wl)).trans K6.sw).trans K7.sw
  · refine ex_return (T := T) (d := .py (.int (standD l zs))) O F2 ?_ fun v s' F' K' R' => ⟨v, rfl, F'.toSt, R'⟩
    have e : standD l zs = (runAt zs l j).2 + indL (runAt zs l j).1 (1 : Nat) := by
      rw [← hP.2]
      obtain ⟨f, hf⟩ : ∃ f, l.length + 1 - j = f + 1 := ⟨l.length - j, by omega⟩
      rw [hf]; simp only [standG, hout]
    rw [e]
    exact ev_add (ev_name rfl) (ev_indent (ts := 1) G H O (by show 3 ≤ 10; decide) (ev_name rfl) ev_int (by omega) (by decide) (by decide) rfl)
end Mine

end
section
set_option Elab.async false
set_option maxRecDepth 100000
set_option autoImplicit false
set_option linter.unusedVariables false
set_option linter.unusedSimpArgs false
namespace Mine
open PySem PySem.W PyProof.Rows PySem.Calls PySem.SeqAt

theorem okLead {K : Frag} (H : FnAt K 106 (stmtAt 8) "_law_lead") : ∃ pm cd, FnOk K 106 (fdOf (stmtAt 8) "_law_lead" pm cd) ["x"] (fBody (stmtAt 8)) :=
  H.ok _ rfl rfl rfl (fun pm cd => one_arg rfl fun a => rfl) (by decide) (by intro x hx; rw [List.mem_singleton.mp hx]; exact .inr rfl)

def leadC (x : Int) (k : Nat) : Nat := if x / 6 / 2 ^ k % 2 = 0 then 32 else 9
def leadL (x : Int) : List Nat := (List.range (x % 6).toNat).map (leadC x)
theorem comp_all {α : Type} (n : Nat) (f : Nat → α) (g : α → PyData) : ((List.range n).filter fun _ => true).map (fun i => g (f i)) = ((List.range n).map f).map g := by
  rw [List.filter_eq_self.mpr (fun _ _ => rfl), List.map_map]; rfl
theorem mkS_append (a b : List Nat) : mkS a ++ mkS b = mkS (a ++ b) := by
  show Str.mk _ = Str.mk _
  simp [mkS]
theorem join_singles : ∀ l : List Nat, Txt.join (Str.ofString "") (l.map fun c => mkS [c]) = mkS l := by
  intro l
  show Builtin.Str.glued _ _ = _
  rw [StrLaws.glued_eq_join]
  induction l with
  | nil => rfl
  | cons c r ih =>
    cases r with
    | nil => rfl
    | cons d r =>
      simp only [List.map_cons] at ih ⊢
      show mkS [c] ++ Str.ofString "" ++ Str.join _ _ = _
      rw [ih, show (Str.ofString "") = mkS [] from rfl, mkS_append, mkS_append]; rfl

theorem sum_singles : ∀ l : List Nat, ((l.map fun c => mkS [c]).map (·.length)).sum = l.length
  | [] => rfl
  | c :: r => by simp only [List.map_cons, List.sum_cons, sum_singles r, List.length_cons, mkS_len]; simp; omega
section
variable {T : Tx} {ρ : Rho}
theorem ev_pow2N {l r : Expr} {pos : Pos} {n : Nat} (h1 : EV T ρ l (.py (.int 2))) (h2 : EV T ρ r (.py (.int n))) (hs : n ≤ 1000) : EV T ρ (.BinOp l .Pow r pos) (.py (.int (2 ^ n))) := by
  have := ev_pow2 (T := T) (pos := pos) h1 h2 (by omega) (by omega)
  rw [Int.toNat_natCast] at this
  exact this
end
variable {prog : Program} {w : World} {K : Frag} {mg mb : Str → Option Value}
theorem ct_lead (G : GOk mg mb) (H : KOk K) (x : Int) : CT prog w K mg mb 1 (.ref 106) [.py (.int x)] (.py (.str (mkS (leadL x)))) := by
  obtain ⟨pm, cd, HO⟩ := okLead H.lead
  refine ct_def HO rfl fun X A L s₀ s E O F => ?_
  let T := Tx.mk prog w K mg mb (cxOf X (fdOf (stmtAt 8) "_law_lead" pm cd) L 106 s₀) A (callEnvC (fdOf (stmtAt 8) "_law_lead" pm cd) L 106) 0
  refine ex_return (T := T) (d := .py (.str (mkS (leadL x)))) O F ?_ fun v s' F' K' R' => ⟨v, rfl, F'.toSt, R'⟩
  rw [← join_singles]
  have h6 : 0 ≤ x % 6 ∧ x % 6 < 6 := ⟨Int.emod_nonneg _ (by decide), Int.emod_lt_of_pos _ (by decide)⟩
  have hlen : (leadL x).length < 6 := by simp only [leadL, List.length_map, List.length_range]; omega
  refine ev_join (T := T) ev_str (evs_cons ?_ evs_nil) ?_
  · have e : ((leadL x).map fun c => mkS [c]).map PyData.str = ((List.range (rangeD 0 (x % 6).toNat).length).filter fun _ => true).map (fun i => PyData.str (mkS [leadC x i])) := by
      rw [comp_all, rangeD_length]; simp [leadL, List.map_map]
    rw [e]
    refine ev_comp (T := T) (fun _ => true) (fun i => .str (mkS [leadC x i])) (ρc := [("x", .py (.int x))]) (cl := [("x", L + 1)]) ⟨rfl, rfl, by decide, by decide, rfl, vis_cons rfl rfl rfl rfl vis_nil, fun _ => rfl⟩ (by rw [rangeD_length, sizeLine_eq]; omega)
      (it_range1 (ev_bui G.range.1 G.range.2 rfl) (evs_cons (ev_mod (ev_name rfl) ev_int (by decide)) evs_nil) (by omega) (by omega)) (fun C D s₂ i d hd => rfl) (fun C D s₂ i d hd _ => ?_)
    obtain ⟨rfl, hi⟩ := rangeD_get hd
    rw [Int.zero_add]
    have hm : 0 ≤ x / 6 / 2 ^ i % 2 ∧ x / 6 / 2 ^ i % 2 < 2 := ⟨Int.emod_nonneg _ (by decide), Int.emod_lt_of_pos _ (by decide)⟩
    have hp : (1 : Int) ≤ 2 ^ i ∧ (2 : Int) ^ i < 2 ^ 64 := by
      have : i = 0 ∨ i = 1 ∨ i = 2 ∨ i = 3 ∨ i = 4 ∨ i = 5 := by omega
      rcases this with rfl | rfl | rfl | rfl | rfl | rfl <;> decide
    refine ev_idxS (k := x / 6 / 2 ^ i % 2) ev_str (ev_mod (ev_div (ev_div (ev_name rfl) ev_int (by decide) (by decide)) (b := 2 ^ i) (ev_pow2N ev_int (ev_name rfl) (by omega)) (by omega) hp.2) ev_int (by decide)) hm.1 (by omega) ?_
    unfold leadC
    have hv : x / 6 / 2 ^ i % 2 = 0 ∨ x / 6 / 2 ^ i % 2 = 1 := by omega
    rcases hv with hv | hv <;> rw [hv] <;> rfl
  · rw [sum_singles, show (Str.ofString "").length = 0 from rfl]; omega
end Mine

end
section
set_option Elab.async false
set_option maxRecDepth 100000
set_option maxHeartbeats 4000000
set_option autoImplicit false
set_option linter.unusedVariables false
set_option linter.unusedSimpArgs false
namespace Mine
open PySem PySem.W PyProof.Rows PySem.Calls PySem.SeqAt

theorem okRow {K : Frag} (H : FnAt K 116 (stmtAt 10) "_law_row") : ∃ pm cd, FnOk K 116 (fdOf (stmtAt 10) "_law_row" pm cd) ["lead"] (fBody (stmtAt 10)) :=
  H.ok _ rfl rfl rfl (fun pm cd => one_arg rfl fun a => rfl) (by decide) (by intro x hx; rw [List.mem_singleton.mp hx]; exact .inl rfl)

def colStep (cols : List Int) (c : Nat) : List Int := (List.range 8).map fun k => if c = 32 then cols.getD k 0 + 1 else (cols.getD k 0 / ((k : Int) + 1) + 1) * ((k : Int) + 1)
def colsL (l : List Nat) : List Int := l.foldl colStep [0, 0, 0, 0, 0, 0, 0, 0]
theorem colsL_succ {l : List Nat} {i c : Nat} (h : l[i]? = some c) : colsL (l.take (i + 1)) = colStep (colsL (l.take i)) c := by
  unfold colsL
  rw [List.take_add_one, h, Option.toList_some, List.foldl_append]; rfl
theorem colsL_len (l : List Nat) : (colsL l).length = 8 := by
  have : ∀ (l : List Nat) (cs : List Int), cs.length = 8 → (l.foldl colStep cs).length = 8 := by
    intro l
    induction l with
    | nil => intro cs h; exact h
    | cons c r ih => intro cs h; exact ih _ (by simp [colStep])
  exact this l _ rfl
def rowD (l : List Nat) : PyData := .list [.str (mkS l), .list ((colsL l).map .int)]
theorem chars_get {l : List Nat} {i : Nat} {d : PyData} (h : (charsOf (mkS l))[i]? = some d) : ∃ c, l[i]? = some c ∧ d = .str ⟨#[c]⟩ := by
  unfold charsOf mkS at h
  rw [List.getElem?_map] at h
  obtain ⟨c, h1, h2⟩ := Option.map_eq_some_iff.mp h
  exact ⟨c, by simpa using h1, h2.symm⟩
theorem chars_len (l : List Nat) : (charsOf (mkS l)).length = l.length := by simp [charsOf, mkS]

variable {prog : Program} {w : World} {K : Frag} {mg mb : Str → Option Value}
theorem ct_row (G : GOk mg mb) (H : KOk K) (l : List Nat) : CT prog w K mg mb 1 (.ref 116) [.py (.str (mkS l))] (.py (rowD l)) := by
  obtain ⟨pm, cd, HO⟩ := okRow H.row
  refine ct_def HO rfl fun X A L s₀ s E O F => ?_
  let T := Tx.mk prog w K mg mb (cxOf X (fdOf (stmtAt 10) "_law_row" pm cd) L 116 s₀) A (callEnvC (fdOf (stmtAt 10) "_law_row" pm cd) L 116) 0
  have stC : STO T "columns" := .inr ⟨rfl, _, rfl, .inr ⟨"columns", rfl⟩⟩
  have stS : STO T "sign" := .inr ⟨rfl, _, rfl, .inr ⟨"sign", rfl⟩⟩
  refine ex_assign (T := T) (d := .py (.list ((colsL []).map .int))) O F (ev_list (ds := [.int 0, .int 0, .int 0, .int 0, .int 0, .int 0, .int 0, .int 0]) (evs_cons ev_int (evs_cons ev_int (evs_cons ev_int (evs_cons ev_int (evs_cons ev_int (evs_cons ev_int (evs_cons ev_int (evs_cons ev_int evs_nil))))))))) stC fun s1 F1 K1 => ?_
  have F1' : FB T.C T.env [("columns", .py (.list ((colsL (l.take 0)).map .int))), ("lead", .py (.str (mkS l)))] s1 := F1.sub (.cons rfl (.cons rfl .nil))
  refine ex_for (T := T) (ds := charsOf (mkS l)) (fun i => [("columns", .py (.list ((colsL (l.take i)).map .int))), ("lead", .py (.str (mkS l)))]) (fun _ _ => True) O F1' trivial (fun _ => Stable.triv) (IT.at (it_str (ev_name rfl)) O F1') stS
    (fun i d hd s2 E' F2 _ K2 => ?_) (fun s2 F2 _ K2 => ?_)
  · obtain ⟨c, hc, rfl⟩ := chars_get hd
    refine ex_assign (T := T) (d := .py (.list ((colsL (l.take (i + 1))).map .int))) O F2 ?_ stC fun s3 F3 K3 => ex_nil (T := T) ⟨F3.sub (.cons rfl (.cons rfl .nil)), trivial, K3.sw⟩
    rw [colsL_succ hc]
    have hl8 := colsL_len (l.take i)
    generalize colsL (l.take i) = cs at *
    have e : (colStep cs c).map PyData.int = ((List.range (rangeD 0 8).length).filter fun _ => true).map (fun k => PyData.int (if c = 32 then cs.getD k 0 + 1 else (cs.getD k 0 / ((k : Int) + 1) + 1) * ((k : Int) + 1))) := by
      rw [comp_all, rangeD_length]; rfl
    rw [e]
    refine ev_comp (T := T) (fun _ => true) _ (ρc := [("columns", .py (.list (cs.map .int))), ("sign", .py (.str ⟨#[c]⟩))]) (cl := [("sign", L + 2), ("columns", L + 1)]) ⟨rfl, rfl, by decide, by decide, rfl, vis_cons rfl rfl rfl rfl (vis_cons rfl rfl rfl rfl vis_nil), fun _ => rfl⟩ (by rw [rangeD_length, sizeLine_eq]; omega)
      (it_range1 (b := 8) (ev_bui G.range.1 G.range.2 rfl) (evs_cons ev_int evs_nil) (by omega) (by omega)) (fun C D s₂ k d hd => rfl) (fun C D s₂ k d hd _ => ?_)
    obtain ⟨rfl, hk⟩ := rangeD_get hd
    rw [Int.zero_add]
    have hkc : k < cs.length := by omega
    have hget : (cs.map PyData.int)[((k : Int)).toNat]? = some (.int (cs.getD k 0)) := by
      rw [Int.toNat_natCast, List.getElem?_map, List.getElem?_eq_getElem hkc]; simp [List.getD, List.getElem?_eq_getElem hkc]
    refine ev_if (tv_eqS (ev_name rfl) ev_str) (fun e => ?_) (fun e => ?_)
    · have h32 : c = 32 := by
        have : (⟨#[c]⟩ : Str) = " " := by simpa using e
        exact Array.singleton_inj.mp (congrArg Str.cps this)
      rw [if_pos h32]
      exact ev_add (ev_idxL (ev_name rfl) (ev_name rfl) (by omega) (by omega) hget) ev_int
    · have h32 : ¬ c = 32 := fun z => by subst z; exact absurd e (by decide)
      rw [if_neg h32]
      exact ev_mul (ev_add (ev_div (ev_idxL (ev_name rfl) (ev_name rfl) (by omega) (by omega) hget) (ev_add (ev_name rfl) ev_int) (by omega) (by omega)) ev_int) (ev_add (ev_name rfl) ev_int) (IntMulOk.of_right (bits_small (by omega)))
  · rw [chars_len, List.take_of_length_le (Nat.le_refl _)] at F2
    exact ex_return (T := T) (d := .py (rowD l)) O F2 (ev_list (ds := [.str (mkS l), .list ((colsL l).map .int)]) (evs_cons (ev_name rfl) (evs_cons (ev_name rfl) evs_nil))) fun v s' F' K' R' => ⟨v, rfl, F'.toSt, R'⟩
end Mine

end
section
set_option Elab.async false
set_option maxRecDepth 100000
set_option maxHeartbeats 4000000
set_option autoImplicit false
set_option linter.unusedVariables false
set_option linter.unusedSimpArgs false
namespace Mine
open PySem PySem.W PyProof.Rows PySem.Calls PySem.SeqAt

theorem okGaps {K : Frag} (H : FnAt K 111 (stmtAt 9) "_law_gaps") : ∃ pm cd, FnOk K 111 (fdOf (stmtAt 9) "_law_gaps" pm cd) ["sizes", "count"] (fBody (stmtAt 9)) :=
  H.ok _ rfl rfl rfl (fun pm cd => two_args rfl fun a b => rfl) (by decide) (by intro x hx; rcases List.mem_cons.mp hx with rfl | hx; exact .inr rfl; rw [List.mem_singleton.mp hx]; exact .inl rfl)

theorem pickL_map {α β : Type} (f : α → β) (l : List α) (lo hi : Option Int) : pickL (l.map f) lo hi = (pickL l lo hi).map f := by
  unfold pickL; rw [List.length_map, ← List.map_drop, ← List.map_take]
theorem flat_rep (k : Nat) (m : List Int) : (List.replicate k (m.map PyData.int)).flatten = ((List.replicate k m).flatten).map PyData.int := by
  induction k with
  | zero => rfl
  | succ k ih => simp only [List.replicate_succ, List.flatten_cons, List.map_append, ih]
def natD (k : Nat) : PyData := .int (k : Int)
def endsL (zs : List Int) : List Nat := (List.range zs.length).filter fun k => ([0, 127] : List Int).contains (zs.getD k 0)
def end0 (zs : List Int) : Nat := (endsL zs ++ [zs.length]).headD 0
def headGaps (zs : List Int) : List Int := pickL zs none (some (end0 zs : Int))
def moreL (zs : List Int) : List Int := if pickL zs (some (end0 zs : Int)) (some ((end0 zs : Int) + 1)) = [0] then pickL (headGaps zs) (some (-1)) none else [1]
def gapsD (zs : List Int) (count : Nat) : List Int := pickL (headGaps zs ++ (List.replicate count (moreL zs)).flatten) none (some (count : Int))
theorem pickL_len {α : Type} (l : List α) (lo hi : Option Int) : (pickL l lo hi).length ≤ l.length := by
  unfold pickL; simp; omega

variable {prog : Program} {w : World} {K : Frag} {mg mb : Str → Option Value}
theorem ct_gaps (G : GOk mg mb) (H : KOk K) (zs : List Int) (count : Nat) (hz : zs.length ≤ 20) (hc : count ≤ 12) : CT prog w K mg mb 1 (.ref 111) [.py (.list (zs.map .int)), .py (.int count)] (.py (.list ((gapsD zs count).map .int))) := by
  obtain ⟨pm, cd, HO⟩ := okGaps H.gaps
  refine ct_def HO rfl fun X A L s₀ s E O F => ?_
  let T := Tx.mk prog w K mg mb (cxOf X (fdOf (stmtAt 9) "_law_gaps" pm cd) L 111 s₀) A (callEnvC (fdOf (stmtAt 9) "_law_gaps" pm cd) L 111) 0
  have hzl : (zs.map PyData.int).length < 2 ^ 62 := by rw [List.length_map]; omega
  have hzs : (zs.map PyData.int).length ≤ sizeLine := by rw [List.length_map, sizeLine_eq]; omega
  refine ex_assign (T := T) (d := .py (.list ((endsL zs ++ [zs.length]).map natD))) O F ?_ (.inl rfl) fun s1 F1 K1 => ?_
  · rw [List.map_append]
    have e : (endsL zs).map natD = ((List.range (rangeD 0 (((zs.map PyData.int).length : Nat) : Int).toNat).length).filter fun k => ([0, 127] : List Int).contains (zs.getD k 0)).map natD := by
      rw [rangeD_length, Int.toNat_natCast, List.length_map]; rfl
    rw [e]
    refine ev_addL (T := T) (ev_comp (T := T) (fun k => ([0, 127] : List Int).contains (zs.getD k 0)) natD (ρc := [("sizes", .py (.list (zs.map .int)))]) (cl := [("sizes", L + 1)]) ⟨rfl, rfl, by decide, by decide, rfl, vis_cons rfl rfl rfl rfl vis_nil, fun _ => rfl⟩ (by rw [rangeD_length, Int.toNat_natCast]; exact hzs)
      (it_range1 (ev_bui G.range.1 G.range.2 rfl) (evs_cons (ev_lenL G (ev_name rfl) hzl rfl) evs_nil) (by omega) (by omega)) (fun C D s₂ k d hd => ?_) (fun C D s₂ k d hd _ => ?_)) ?_ ?_
    · obtain ⟨rfl, hk⟩ := rangeD_get hd
      rw [Int.zero_add]
      have hkc : k < zs.length := by rw [Int.toNat_natCast, List.length_map] at hk; exact hk
      have hget : (zs.map PyData.int)[((k : Int)).toNat]? = some (.int (zs.getD k 0)) := by
        rw [Int.toNat_natCast, List.getElem?_map, List.getElem?_eq_getElem hkc]; simp [List.getD, List.getElem?_eq_getElem hkc]
      exact tv_in (ns := [0, 127]) (ev_idxL (ev_name rfl) (ev_name rfl) (by omega) (by omega) hget) (ev_list (ds := [.int 0, .int 127]) (evs_cons ev_int (evs_cons ev_int evs_nil)))
    · obtain ⟨rfl, hk⟩ := rangeD_get hd
      rw [Int.zero_add]
      exact ev_name rfl
    · have := ev_lenL (T := T) (ρ := [("sizes", .py (.list (zs.map .int))), ("count", .py (.int count))]) (e := .Name "sizes" ⟨78, 73, 78, 78⟩) (np := ⟨78, 69, 78, 72⟩) (pos := ⟨78, 69, 78, 79⟩) G (ev_name rfl) hzl rfl
      rw [List.length_map] at this
      exact ev_list (ds := [.int (zs.length : Int)]) (evs_cons this evs_nil)
    · rw [List.length_map, sizeLine_eq]
      have := List.length_filter_le (fun k => ([0, 127] : List Int).contains (zs.getD k 0)) (List.range (rangeD 0 (((zs.map PyData.int).length : Nat) : Int).toNat).length)
      rw [List.length_range, rangeD_length, Int.toNat_natCast, List.length_map] at this
      rw [rangeD_length, Int.toNat_natCast, List.length_map]
      refine Nat.le_trans (Nat.add_le_add_right this _) ?_
      show zs.length + 1 ≤ _
      omega
  have he0 : ((endsL zs ++ [zs.length]).map natD)[(0 : Int).toNat]? = some (.int (end0 zs : Int)) := by
    unfold end0
    cases endsL zs <;> rfl
  have ev0 : ∀ {ρ : Rho} {np kp pos : Pos}, ρ.lookup (Str.ofString "ends") = some (.py (.list ((endsL zs ++ [zs.length]).map natD))) → EV T ρ (.Subscript (.Name "ends" np) (.Constant (.int 0) 0 kp) pos) (.py (.int (end0 zs : Int))) := fun h => ev_idxL (ev_name h) ev_int (by omega) (by omega) he0
  have hhg : (headGaps zs).length ≤ 20 := Nat.le_trans (pickL_len _ _ _) hz
  refine ex_assign (T := T) (d := .py (.list ((headGaps zs).map .int))) O F1 ?_ (.inl rfl) fun s2 F2 K2 => ?_
  · unfold headGaps; rw [← pickL_map]
    exact ev_sliceL (lo := none) (hi := some (end0 zs : Int)) (ev_name rfl) trivial (ev0 rfl) hzs
  have hml : (moreL zs).length ≤ 20 := by
    unfold moreL; split
    · exact Nat.le_trans (pickL_len _ _ _) hhg
    · simp
  refine ex_assign (T := T) (d := .py (.list ((moreL zs).map .int))) O F2 ?_ (.inl rfl) fun s3 F3 K3 => ?_
  · refine ev_if (x := decide (pickL zs (some (end0 zs : Int)) (some ((end0 zs : Int) + 1)) = [0])) ?_ (fun e => ?_) (fun e => ?_)
    · have hq : PyData.eqv (.list ((pickL zs (some (end0 zs : Int)) (some ((end0 zs : Int) + 1))).map .int)) (.list (([0] : List Int).map .int)) = decide (pickL zs (some (end0 zs : Int)) (some ((end0 zs : Int) + 1)) = [0]) := eqv_ints _ _
      rw [← hq]
      refine tv_eq ?_ (ev_list (ds := [.int 0]) (evs_cons ev_int evs_nil)) (shaped_ints _) (shaped_ints [0])
      rw [← pickL_map]
      exact ev_sliceL (lo := some (end0 zs : Int)) (hi := some ((end0 zs : Int) + 1)) (ev_name rfl) (ev0 rfl) (ev_add (ev0 rfl) ev_int) hzs
    · unfold moreL
      rw [if_pos (of_decide_eq_true e), ← pickL_map]
      exact ev_sliceL (lo := some (-1)) (hi := none) (ev_name rfl) (ev_neg ev_int) trivial (by rw [List.length_map, sizeLine_eq]; omega)
    · unfold moreL
      rw [if_neg (of_decide_eq_false e)]
      exact ev_list (ds := [.int 1]) (evs_cons ev_int evs_nil)
  refine ex_return (T := T) (d := .py (.list ((gapsD zs count).map .int))) O F3 ?_ fun v s' F' K' R' => ⟨v, rfl, F'.toSt, R'⟩
  unfold gapsD
  rw [← pickL_map, show (headGaps zs ++ (List.replicate count (moreL zs)).flatten).map PyData.int = (headGaps zs).map PyData.int ++ (List.replicate count ((moreL zs).map PyData.int)).flatten by rw [List.map_append, flat_rep]]
  have hb : (List.replicate count ((moreL zs).map PyData.int)).flatten.length ≤ 240 := by
    rw [List.length_flatten, List.map_replicate, List.sum_replicate_nat, List.length_map]
    exact Nat.le_trans (Nat.mul_le_mul hc hml) (by decide)
  refine ev_sliceL (lo := none) (hi := some (count : Int)) (ev_addL (ev_name rfl) (ev_mulL (n := (count : Int)) (ev_name rfl) (ev_name rfl) (by omega) ?_) ?_) trivial (ev_name rfl) ?_
  · rw [List.length_map, Int.toNat_natCast]; exact Nat.le_trans (Nat.mul_le_mul hml hc) (by decide)
  · rw [List.length_map, sizeLine_eq]; omega
  · rw [List.length_append, List.length_map, sizeLine_eq]; omega
end Mine

end
section
set_option Elab.async false
set_option maxRecDepth 100000
set_option maxHeartbeats 4000000
set_option autoImplicit false
set_option linter.unusedVariables false
set_option linter.unusedSimpArgs false
namespace Mine
open PySem PySem.W PyProof.Rows PySem.Calls PySem.SeqAt

section
variable {T : Tx} {ρ : Rho}
theorem FB.ke {C : Cx} {env : Env} {s s' : Shared} {K : Frag} {mg mb : Str → Option Value} (E : EOk K mg mb C env) (F : FB C env ρ s) (k : Ke env.locals s s') (S : St C s') : FB C env ρ s' := by
  refine ⟨S, fun x c hc => ?_, ?_⟩
  · obtain ⟨v, o, ho, hd⟩ := F.cl x c hc
    exact ⟨v, o, k.heap c o (E.cne x c hc) ho, hd⟩
  · obtain ⟨m, hm, hv⟩ := F.fr
    refine ⟨m, k.ns m hm, fun x d hx => ?_⟩
    obtain ⟨v, h1, h2⟩ := hv x d hx
    refine ⟨v, ?_, h2.mono (k.kx (E.wx _ E.wl))⟩
    rcases h1 with h1 | ⟨h1, c, hc, ⟨o, ho, hd⟩, h4⟩
    · exact .inl h1
    · exact .inr ⟨h1, c, hc, ⟨o, k.heap c o (E.cne x c hc) ho, hd⟩, h4⟩

/-- an expression that reads the list that grows -/
theorem own_ev {x : Str} {D : Addr} {ds : List PyData} {e : Expr} {d : PyData} {Q : Value → Shared → Prop} {E : Value → Shared → Prop} {s : Shared} (O : T.Ok) (O' : (T.own D).Ok) (hXD : ¬ T.C.X D) (hLD : T.env.locals ≠ D) (hx : ρ.lookup x = some (.val (.ref D)))
    (F : FB (T.own D).C T.env ρ s) (g : Grows T D ds s.heap) (he : EV T ((x, .py (.list ds)) :: ρ) e (.py d)) (hf : FlatD (.py d))
    (k : ∀ v s', FB (T.own D).C T.env ρ s' → Grows T D ds s'.heap → Ke T.env.locals s s' → (∀ X h, Rd X h v d) → Q v s') : wpAny (model T.prog T.w) T.A (eval e T.env) Q E s := by
  have F0 := F.less O.toEOk rfl fun a ha => .inl ha
  obtain ⟨vs, hp, hr⟩ := g.ex
  have F1 : FB T.C T.env ((x, .py (.list ds)) :: ρ) s := by
    refine ⟨F0.toSt, F0.cl, ?_⟩
    obtain ⟨m, hm, hv⟩ := F0.fr
    refine ⟨m, hm, fun y d' hy => ?_⟩
    rw [List.lookup_cons] at hy
    by_cases q : y = x
    · subst q
      simp only [beq_self_eq_true] at hy
      cases hy
      obtain ⟨v, h1, h2⟩ := hv y _ hx
      obtain rfl : v = .ref D := h2
      exact ⟨_, h1, Rd.mkList hXD hp.isList (hr.vol fun a o _ ha => .inl ha)⟩
    · have q' : (y == x) = false := by simpa using q
      rw [q'] at hy
      exact hv y d' hy
  refine he O s Q E F1 fun v s' F' K' R' => ?_
  have hDk : ∀ o, s.heap.get? D = some o → s'.heap.get? D = some o := fun o q => K'.heap D o hLD.symm q
  have S' : St (T.own D).C s' := ⟨F'.old, F'.os, F'.drawn, F'.gens, F'.bare, fun a ha => by
    rcases ha with ha | ha
    · exact F'.xin a ha
    · obtain ⟨n, hn⟩ := hp; exact ⟨_, (show a = D from ha) ▸ hDk _ hn⟩⟩
  exact k v s' (F.ke O'.toEOk K' S') (g.keeps hDk (K'.kx (O'.wx _ O'.wl))) K' (hf.rd R')
end

theorem foldl_rep (c : Nat) : ∀ (n : Nat) (acc : Array Nat), ((List.replicate n #[c]).foldl (· ++ ·) acc).toList = acc.toList ++ List.replicate n c
  | 0, acc => by simp
  | n + 1, acc => by
    rw [List.replicate_succ, List.foldl_cons, foldl_rep c n, List.replicate_succ]
    simp
theorem mul_mkS (c : Nat) (n : Int) : Txt.mul (mkS [c]) n = mkS (List.replicate n.toNat c) := by
  unfold Txt.mul
  split
  · rename_i h
    rw [show n.toNat = 0 by omega]; rfl
  · split
    · rename_i h1 h2
      have : n = 1 := by
        rw [show ((mkS [c]).length == 0) = false from rfl, Bool.or_false] at h2
        simpa using h2
      subst this; rfl
    · show Str.mk _ = Str.mk _
      congr 1
      apply Array.toList_inj.mp
      rw [show (mkS [c]).cps = #[c] from rfl, foldl_rep]; simp
theorem mulOk1 {c : Nat} {n : Int} (h : n.natAbs ≤ 1000) : MulOk (mkS [c]) n := by
  have hl : (mkS [c]).length = 1 := rfl
  refine ⟨by simp only [Bool.or_eq_false_iff, decide_eq_false_iff_not]; omega, fun h1 _ => ?_, fun h1 _ => ?_⟩
  · rw [hl]
    have : (1 : Int) ≤ (2 ^ 63 - 1) / n := by
      apply Int.le_ediv_of_mul_le (by omega); omega
    omega
  · rw [hl]
    show decide (1 * n.toNat > sizeLine) = false
    rw [decide_eq_false_iff_not, sizeLine_eq]; omega

theorem okRead {K : Frag} (H : FnAt K 130 (stmtAt 12) "_law_read") : ∃ pm cd, FnOk K 130 (fdOf (stmtAt 12) "_law_read" pm cd) ["lead"] (fBody (stmtAt 12)) :=
  H.ok _ rfl rfl rfl (fun pm cd => one_arg rfl fun a => rfl) (by decide) (by intro x hx; rw [List.mem_singleton.mp hx]; exact .inl rfl)

/-! _law_read: the plain account -/
def goodZb (zs : List Int) : Bool := !(zs[0]? == some 0) && zs.all fun z => decide (0 ≤ z) && decide (z ≤ 100000)
theorem goodZb_of {zs : List Int} (h : goodZb zs = true) : goodZ zs := by
  unfold goodZb at h
  simp only [Bool.and_eq_true, Bool.not_eq_true', List.all_eq_true, decide_eq_true_eq, beq_eq_false_iff_ne] at h
  exact ⟨h.1, fun z hz => h.2 z hz⟩
def tailsL (i : Nat) : List Int := match i % 3 with | 0 => [] | 1 => [127, 2, 0] | _ => [1, 0]
def readRun (l : List Nat) (W : Nat) : Nat → Nat → List Int → List Nat → Option (List Nat)
  | 0, _, _, text => if text.length ≤ 100 then some (text ++ [63]) else none
  | f + 1, i, gaps, text =>
    if (goodZb (gaps ++ [(W : Int) + 1] ++ tailsL i) && decide (gaps.length ≤ 50) && decide (text.length ≤ 100)) = true then
      (if standD l (gaps ++ [(W : Int) + 1] ++ tailsL i) = W then some (text ++ List.replicate ((W : Int) - text.length).toNat 32)
      else if ((W : Int) + W - standD l (gaps ++ [(W : Int) + 1] ++ tailsL i) + 1).natAbs ≤ 500 then
        readRun l W f (i + 1) (gaps ++ [(W : Int) + W - standD l (gaps ++ [(W : Int) + 1] ++ tailsL i) + 1]) (text ++ List.replicate ((W : Int) + W - standD l (gaps ++ [(W : Int) + 1] ++ tailsL i) + 1 - 1).toNat 32 ++ [9])
      else none)
    else none
def tailsD : List PyData := [.list [], .list [.int 127, .int 2, .int 0], .list [.int 1, .int 0]]
theorem tailsD_get (i : Nat) : tailsD[((i : Int) % 3).toNat]? = some (.list ((tailsL i).map .int)) := by
  have : i % 3 = 0 ∨ i % 3 = 1 ∨ i % 3 = 2 := by omega
  have e : ((i : Int) % 3).toNat = i % 3 := by omega
  rw [e]; unfold tailsL
  rcases this with h | h | h <;> rw [h] <;> rfl
theorem last_get (gp : List Int) (x : Int) : ((gp ++ [x]).map PyData.int)[(-1 + (((gp ++ [x]).map PyData.int).length : Int)).toNat]? = some (.int x) := by
  have e : (-1 + (((gp ++ [x]).map PyData.int).length : Int)).toNat = gp.length := by rw [List.length_map, List.length_append]; simp; omega
  rw [e]; simp
def seqR (l : List Nat) (W : Nat) : Nat → List Int × List Nat
  | 0 => ([], [])
  | i + 1 => ((seqR l W i).1 ++ [(W : Int) + W - standD l ((seqR l W i).1 ++ [(W : Int) + 1] ++ tailsL i) + 1], (seqR l W i).2 ++ List.replicate ((W : Int) + W - standD l ((seqR l W i).1 ++ [(W : Int) + 1] ++ tailsL i) + 1 - 1).toNat 32 ++ [9])

variable {prog : Program} {w : World} {K : Frag} {mg mb : Str → Option Value}
theorem ct_read (G : GOk mg mb) (H : KOk K) (l : List Nat) (hl : l.length ≤ 100) (W : Nat) (hW : standD l [127, 2, 0] = W) (hW1 : W ≤ 100) (r : List Nat) (hr : readRun l W (W + 1) 0 [] [] = some r) :
    CT prog w K mg mb 12 (.ref 130) [.py (.str (mkS l))] (.py (.str (mkS r))) := by
  obtain ⟨pm, cd, HO⟩ := okRead H.read
  refine ct_def HO rfl fun X A L s₀ s E O F => ?_
  let T := Tx.mk prog w K mg mb (cxOf X (fdOf (stmtAt 12) "_law_read" pm cd) L 130 s₀) A (callEnvC (fdOf (stmtAt 12) "_law_read" pm cd) L 130) 11
  refine ex_assign (T := T) (d := .py (.list tailsD)) O F (ev_list (ds := tailsD) (hz := by decide) (evs_cons (ev_list (ds := []) evs_nil) (evs_cons (ev_list (ds := [.int 127, .int 2, .int 0]) (evs_cons ev_int (evs_cons ev_int (evs_cons ev_int evs_nil)))) (evs_cons (ev_list (ds := [.int 1, .int 0]) (evs_cons ev_int (evs_cons ev_int evs_nil))) evs_nil)))) (.inl rfl) fun s1 F1 K1 => ?_
  refine ex_assign (T := T) (d := .py (.int W)) O F1 ?_ (.inl rfl) fun s2 F2 K2 => ?_
  · rw [← hW]
    exact ev_call (n := 11) (ev_glob G.stand rfl) (evs_cons (ev_name rfl) (evs_cons (ev_idxL (ev_name rfl) ev_int (by omega) (by omega) rfl) evs_nil)) (ct_stand G H l [127, 2, 0] (by omega) ⟨by decide, by decide⟩) (Nat.le_refl _) (H.k 123)
  refine ex_assign (T := T) (d := .py (.str (mkS []))) O F2 ev_str (.inl rfl) fun s3 F3 K3 => ?_
  refine ex_newlist (T := T) O F3 (.inl rfl) fun D s4 O' hXD hLD hcD F4 g4 K4 => ?_
  let T' := T.own D
  have hDk : ∀ {s s' : Shared}, Ke T.env.locals s s' → ∀ o, s.heap.get? D = some o → s'.heap.get? D = some o := fun K o q => K.heap D o hLD.symm q
  have hnD : ¬ SW T' D := by
    rintro ⟨_, z | ⟨y, z⟩⟩
    · exact hLD z.symm
    · exact hcD _ _ z rfl
  have F4' : FB T'.C T'.env [("gaps", .val (.ref D)), ("text", .py (.str (mkS (seqR l W 0).2))), ("whole", .py (.int W)), ("tails", .py (.list tailsD)), ("lead", .py (.str (mkS l)))] s4 := F4.sub (.cons rfl (.cons rfl (.cons rfl (.cons rfl (.cons rfl .nil)))))
  have en : ((W : Int) + 1).toNat = W + 1 := by omega
  refine ex_for (T := T') (ds := rangeD 0 ((W : Int) + 1).toNat) (fun i => [("gaps", .val (.ref D)), ("text", .py (.str (mkS (seqR l W i).2))), ("whole", .py (.int W)), ("tails", .py (.list tailsD)), ("lead", .py (.str (mkS l)))])
    (fun i h => Grows T D ((seqR l W i).1.map .int) h ∧ readRun l W (W + 1 - i) i (seqR l W i).1 (seqR l W i).2 = some r) O' F4' ⟨g4, hr⟩ (fun i h h' g hk kx => ⟨g.1.keeps (fun o q => hk D o (.inr rfl) hnD q) kx, g.2⟩)
    (IT.at (it_range1 (b := (W : Int) + 1) (ev_bui G.range.1 G.range.2 rfl) (evs_cons (ev_add (ev_name rfl) ev_int) evs_nil) (by omega) (by omega)) O' F4') (.inl rfl)
    (fun i d hd s5 E' F5 g5 K5 => ?_) (fun s5 F5 g5 K5 => ?_)
  · obtain ⟨rfl, hi⟩ := rangeD_get hd
    rw [Int.zero_add] at F5
    rw [en] at hi
    have hrun := g5.2
    obtain ⟨f, hf⟩ : ∃ f, W + 1 - i = f + 1 := ⟨W - i, by omega⟩
    rw [hf] at hrun
    simp only [readRun] at hrun
    have hs1 : (seqR l W (i + 1)).1 = (seqR l W i).1 ++ [(W : Int) + W - standD l ((seqR l W i).1 ++ [(W : Int) + 1] ++ tailsL i) + 1] := rfl
    have hs2 : (seqR l W (i + 1)).2 = (seqR l W i).2 ++ List.replicate ((W : Int) + W - standD l ((seqR l W i).1 ++ [(W : Int) + 1] ++ tailsL i) + 1 - 1).toNat 32 ++ [9] := rfl
    generalize hgp : (seqR l W i).1 = gp at *
    generalize htx : (seqR l W i).2 = tx at *
    split at hrun
    case isFalse => cases hrun
    rename_i hok
    simp only [Bool.and_eq_true, decide_eq_true_eq] at hok
    obtain ⟨⟨hgz, hgl⟩, htl⟩ := hok
    generalize hcol : standD l (gp ++ [(W : Int) + 1] ++ tailsL i) = col at *
    have wl : T'.C.W T'.env.locals := O'.wl
    have hm : ((gp ++ [(W : Int) + 1] ++ tailsL i).map PyData.int) = gp.map PyData.int ++ [PyData.int ((W : Int) + 1)] ++ (tailsL i).map PyData.int := by simp
    have htl3 : (tailsL i).length ≤ 3 := by unfold tailsL; split <;> simp
    refine wpAny_execs_cons (wpAny_Assign_Name (own_ev (T := T) (x := "gaps") (d := .int col) O O' hXD hLD rfl F5 g5.1 ?_ (.int _) fun v s6 F6 g6 K6 R6 => st_name (T := T') O' F6 (d := .py (.int col)) (R6 _ _) (fun s7 F7 K7 => ?_) (.inl rfl)) rfl)
    · rw [← hcol]
      refine ev_call (n := 11) (ev_glob G.stand rfl) (evs_cons (ev_name rfl) (evs_cons ?_ evs_nil)) (ct_stand G H l (gp ++ [(W : Int) + 1] ++ tailsL i) (by omega) (goodZb_of hgz)) (Nat.le_refl _) (H.k 123)
      rw [hm]
      refine ev_addL (ev_addL (ev_name rfl) (ev_list (ds := [.int ((W : Int) + 1)]) (evs_cons (ev_add (ev_name rfl) ev_int) evs_nil)) ?_) (ev_idxL (ds := tailsD) (ev_name rfl) (ev_mod (ev_name rfl) ev_int (by decide)) (by omega) (by omega) (tailsD_get i)) ?_
      · rw [List.length_map, sizeLine_eq]; show _ + 1 ≤ _; omega
      · rw [List.length_append, List.length_map, List.length_map, sizeLine_eq]; show _ + 1 + _ ≤ _; omega
    have g7 : Grows T D (gp.map .int) s7.heap := g6.keeps (fun o q => K7.heap D o hnD q) (.of fun b o n e => K7.heap b o (fun q => n (O'.wx _ q.1)) e)
    refine ex_if (T := T') O' F7 (tv_eqI (ev_name rfl) (ev_name rfl)) (fun e s8 F8 K8 => ?_) (fun e s8 F8 K8 => ?_)
    · have he : col = W := by simpa using e
      rw [if_pos he] at hrun
      cases hrun
      refine ex_return (T := T') (d := .py (.str (mkS (tx ++ List.replicate ((W : Int) - tx.length).toNat 32)))) O' F8 ?_ fun v s' F' K' R' => ⟨v, rfl, (F'.less O.toEOk rfl fun a ha => .inl ha).toSt, R'.vol fun a _ _ ha => .inl ha⟩
      rw [← mkS_append, ← mul_mkS]
      have hlen : ∀ {ρ : Rho} {np tp pos : Pos}, ρ.lookup (Str.ofString "text") = some (.py (.str (mkS tx))) → EV T' ρ (.Call (.Name "len" np) [.Name "text" tp] [] pos) (.py (.int tx.length)) := fun h => by
        rw [← mkS_len]
        exact ev_lenS (T := T') G (ev_name h) (by rw [mkS_len]; omega) rfl
      refine ev_addS (ev_name rfl) (ev_mulS ev_str (ev_sub (ev_name rfl) (hlen rfl)) (mulOk1 (by omega))) ?_
      rw [mul_mkS, mkS_len, mkS_len, List.length_replicate, sizeLine_eq]; omega
    · have he : ¬ col = W := by simpa using e
      rw [if_neg he] at hrun
      split at hrun
      case isFalse => cases hrun
      rename_i hab
      refine ex_nil (T := T') ?_
      have g8 := g7.keeps (hDk K8) (K8.kx (O'.wx _ wl))
      refine ex_append (T := T) O' hLD hcD F8 g8 (by rw [List.length_map, sizeLine_eq]; omega) (ev_name rfl) (d := .int ((W : Int) + W - col + 1))
        (fun s' F' g' Q E k => ev_add (T := T') (ev_sub (ev_add (ev_name rfl) (ev_name rfl)) (ev_name rfl)) ev_int O' s' Q E F' k) fun s9 F9 g9 K9 => ?_
      have hga : gp.map PyData.int ++ [PyData.int ((W : Int) + W - col + 1)] = (gp ++ [(W : Int) + W - col + 1]).map PyData.int := by simp
      rw [hga] at g9
      refine wpAny_execs_cons (wpAny_Assign_Name (own_ev (T := T) (x := "gaps") (d := .str (mkS (tx ++ List.replicate ((W : Int) + W - col + 1 - 1).toNat 32 ++ [9]))) O O' hXD hLD rfl F9 g9 ?_ (.str _) fun v s10 F10 g10 K10 R10 => st_name (T := T') O' F10 (d := .py (.str (mkS (tx ++ List.replicate ((W : Int) + W - col + 1 - 1).toNat 32 ++ [9])))) (R10 _ _) (fun s11 F11 K11 => ?_) (.inl rfl)) rfl)
      · rw [← mkS_append, ← mkS_append, ← mul_mkS]
        refine ev_addS (ev_addS (ev_name rfl) (ev_mulS ev_str (ev_sub (ev_idxLneg (d := .int ((W : Int) + W - col + 1)) (ev_name rfl) (ev_neg ev_int) (by omega) ?_ (by omega) ?_) ev_int) (mulOk1 (by omega))) ?_) ev_str ?_
        · rw [List.length_map, List.length_append]; simp; omega
        · exact last_get _ _
        · rw [mul_mkS, mkS_len, mkS_len, List.length_replicate, sizeLine_eq]; omega
        · rw [mul_mkS, mkS_append, mkS_len, List.length_append, List.length_replicate, sizeLine_eq]; show _ + 1 ≤ _; omega
      · refine ex_nil (T := T') ⟨?_, ⟨?_, ?_⟩, ?_⟩
        · rw [hs2]; exact F11.sub (.cons rfl (.cons rfl (.cons rfl (.cons rfl (.cons rfl .nil)))))
        · rw [hs1]; exact g10.keeps (fun o q => K11.heap D o hnD q) (.of fun b o n e => K11.heap b o (fun q => n (O'.wx _ q.1)) e)
        · rw [hs1, hs2, show W + 1 - (i + 1) = f by omega]; exact hrun
        · exact (((((K6.kw wl).trans K7.sw).trans (K8.kw wl)).trans K9).trans (K10.kw wl)).trans K11.sw
  · rw [rangeD_length, en] at g5 F5
    have := g5.2
    rw [show W + 1 - (W + 1) = 0 by omega] at this
    simp only [readRun] at this
    split at this
    · rename_i hlen
      cases this
      refine ex_return (T := T') (d := .py (.str (mkS ((seqR l W (W + 1)).2 ++ [63])))) O' F5 ?_ fun v s' F' K' R' => ⟨v, rfl, (F'.less O.toEOk rfl fun a ha => .inl ha).toSt, R'.vol fun a _ _ ha => .inl ha⟩
      rw [← mkS_append]
      exact ev_addS (ev_name rfl) ev_str (by rw [mkS_len, sizeLine_eq]; show _ + 1 ≤ _; omega)
    · cases this
end Mine

end
section
set_option Elab.async false
set_option maxRecDepth 100000
set_option maxHeartbeats 4000000
set_option autoImplicit false
namespace Mine
open PySem PySem.W PyProof.Rows PySem.Calls PySem.SeqAt

/-! the plain law: leads -/
/-- the runs between the tabs -/
def runsL : List Nat → List (List Nat)
  | [] => [[]]
  | c :: r => if c = 9 then [] :: runsL r else (match runsL r with | x :: xs => (c :: x) :: xs | [] => [[c]])
def allLeads : Nat → List (List Nat)
  | 0 => [[]]
  | n + 1 => [] :: ((allLeads n).map (32 :: ·) ++ (allLeads n).map (9 :: ·))
/-- insertion of a run by its length -/
def insL (x : List Nat) : List (List Nat) → List (List Nat)
  | [] => [x]
  | y :: r => if x.length ≤ y.length then x :: y :: r else y :: insL x r
def sortL (rs : List (List Nat)) : List (List Nat) := rs.foldr insL []
def maxRun (rs : List (List Nat)) : Nat := rs.foldr (fun x m => max x.length m) 0
/-- the runs in rising order, and the last one -/
def sigL (l : List Nat) : List (List Nat) := sortL (runsL l).dropLast ++ [(runsL l).getLastD []]
def ofNorm (c : List Int) (b : Nat) : List (List Nat) := ((List.range c.length).map fun j => List.replicate (c.getD j 0).toNat (List.replicate j 32)).flatten ++ [List.replicate b 32]
def toNorm (s : List (List Nat)) : List Int × Nat :=
  ((List.range (maxRun s.dropLast + (if s.dropLast = [] then 0 else 1))).map fun j => (((s.dropLast.filter fun x => x.length == j).length : Nat) : Int), (s.getLastD []).length)
def leadOk (l : List Nat) : Bool :=
  decide (Txt.split (mkS l) (mkS [9]) = (runsL l).map mkS) && l.all blank && decide (l.length ≤ 20) &&
  (List.range 8).all (fun k => decide (indL l (k + 1) = (colsL l).getD k 0)) &&
  decide (longD (wsL l).count (wsL l).b = (maxRun (runsL l) : Int)) && decide (maxRun (runsL l) ≤ 7) &&
  decide (sigL l = ofNorm (wsL l).count (wsL l).b) && decide (toNorm (sigL l) = ((wsL l).count, (wsL l).b)) && decide (((wsL l).nt : Int) = (wsL l).count.sum)
def readOk (l : List Nat) : Bool := match standD l [127, 2, 0] with
  | .ofNat W => decide (W ≤ 100) && decide (readRun l W (W + 1) 0 [] [] = some l)
  | _ => false
theorem leads_ok6 : (allLeads 6).all leadOk = true := by decide +kernel
theorem read_ok5 : (allLeads 5).all readOk = true := by decide +kernel
end Mine

end
section
set_option Elab.async false
set_option maxRecDepth 100000
set_option maxHeartbeats 4000000
set_option autoImplicit false
set_option linter.unusedVariables false
namespace Mine
open PySem PySem.W PyProof.Rows PySem.Calls PySem.SeqAt PySem.Spec

def leS (a b : Str) : Prop := ltCps b.cps.toList a.cps.toList = false
theorem leS_iff (a b : Str) : leS a b ↔ a.cps.toList ≤ b.cps.toList := by
  unfold leS; rw [ltCps_eq, decide_eq_false_iff_not]; exact Iff.rfl
theorem leS_trans {a b c : Str} (h1 : leS a b) (h2 : leS b c) : leS a c := by
  rw [leS_iff] at *; exact List.le_trans h1 h2
theorem leS_anti {a b : Str} (h1 : leS a b) (h2 : leS b a) : a = b := by
  rw [leS_iff] at *
  have := List.le_antisymm h1 h2
  cases a; cases b
  exact congrArg Str.mk (Array.toList_inj.mp this)
theorem pairwise_of_rising : ∀ (l : List Str) (p : Str), risingS p l = true → (p :: l).Pairwise leS
  | [], p, _ => List.pairwise_singleton _ _
  | x :: r, p, h => by
    simp only [risingS, Bool.and_eq_true, Bool.not_eq_true'] at h
    have ih := pairwise_of_rising r x h.2
    refine List.pairwise_cons.mpr ⟨fun y hy => ?_, ih⟩
    rcases List.mem_cons.mp hy with rfl | hy
    · exact h.1
    · exact leS_trans h.1 ((List.pairwise_cons.mp ih).1 y hy)
theorem pairwise_of_sorted {l : List Str} (h : sortedS l = true) : l.Pairwise leS := by
  cases l with
  | nil => exact .nil
  | cons x r => exact pairwise_of_rising r x h
theorem sort_unique {ss ss' out : List Str} (hp : out.Perm ss) (ho : sortedS out = true) (h1 : ss'.Perm ss) (h2 : sortedS ss' = true) : ss' = out :=
  List.Perm.eq_of_pairwise (fun a b _ _ h h' => leS_anti h h') (pairwise_of_sorted h2) (pairwise_of_sorted ho) (h1.trans hp.symm)
/-- the sorting of the runs -/
def sortOk (l : List Nat) : Bool := sortedS ((sortL (runsL l).dropLast).map mkS) && (sortL (runsL l).dropLast).isPerm (runsL l).dropLast
theorem sort_ok6 : (allLeads 6).all sortOk = true := by decide +kernel
theorem sorted_runs {l : List Nat} (h : sortOk l = true) : ∀ ss', ss'.Perm (((runsL l).dropLast).map mkS) → sortedS ss' = true → ss' = (sortL (runsL l).dropLast).map mkS := by
  unfold sortOk at h
  simp only [Bool.and_eq_true] at h
  intro ss' h1 h2
  exact sort_unique ((List.isPerm_iff.mp h.2).map mkS) h.1 h1 h2
end Mine

end
section
set_option Elab.async false
set_option maxRecDepth 100000
set_option maxHeartbeats 4000000
set_option autoImplicit false
set_option linter.unusedVariables false
set_option linter.unusedSimpArgs false
namespace Mine
open PySem PySem.W PyProof.Rows PySem.Calls PySem.SeqAt

structure LeadF (l : List Nat) : Prop where
  split : Txt.split (mkS l) (mkS [9]) = (runsL l).map mkS
  blank : ∀ c ∈ l, blank c = true
  len : l.length ≤ 20
  ind : ∀ k, k < 8 → indL l (k + 1) = (colsL l).getD k 0
  long : longD (wsL l).count (wsL l).b = (maxRun (runsL l) : Int)
  maxr : maxRun (runsL l) ≤ 7
  sig1 : sigL l = ofNorm (wsL l).count (wsL l).b
  sig2 : toNorm (sigL l) = ((wsL l).count, (wsL l).b)
  nt : ((wsL l).nt : Int) = (wsL l).count.sum
  srt : sortOk l = true
theorem leadF_of {l : List Nat} (h : leadOk l = true) (hs : sortOk l = true) : LeadF l := by
  unfold leadOk at h
  simp only [Bool.and_eq_true, decide_eq_true_eq, List.all_eq_true, List.mem_range] at h
  obtain ⟨⟨⟨⟨⟨⟨⟨⟨h1, h2⟩, h3⟩, h4⟩, h5⟩, h6⟩, h7⟩, h8⟩, h9⟩ := h
  exact ⟨h1, h2, h3, h4, h5, h6, h7, h8, h9, hs⟩

theorem runS_app (c : Nat) (r : List Nat) (hc : blank c = false) : ∀ (l : List Nat) (st : WS), (∀ x ∈ l, blank x = true) → runS (l ++ c :: r) st = runS l st
  | [], st, _ => by simp [runS, hc]
  | x :: l, st, h => by
    have hx := h x (by simp)
    simp only [List.cons_append, runS, hx, if_true]
    exact runS_app c r hc l _ fun y hy => h y (by simp [hy])
theorem wsL_app {l : List Nat} (h : ∀ c ∈ l, blank c = true) {c : Nat} {r : List Nat} (hc : blank c = false) : wsL (l ++ c :: r) = wsL l := runS_app c r hc l _ h
theorem mkS_inj {a b : List Nat} (h : mkS a = mkS b) : a = b := by
  have := congrArg Str.cps h
  simpa [mkS] using this
theorem map_mkS_inj : ∀ {a b : List (List Nat)}, a.map mkS = b.map mkS → a = b
  | [], [], _ => rfl
  | [], _ :: _, h => by simp at h
  | _ :: _, [], h => by simp at h
  | x :: a, y :: b, h => by
    simp only [List.map_cons, List.cons.injEq] at h
    rw [mkS_inj h.1, map_mkS_inj h.2]
theorem eqv_strs : ∀ c c' : List Str, PyData.eqvAll (c.map PyData.str) (c'.map PyData.str) = decide (c = c')
  | [], [] => rfl
  | [], _ :: _ => rfl
  | _ :: _, [] => rfl
  | a :: c, b :: c' => by
    simp only [List.map_cons, PyData.eqvAll, PyData.eqv, eqv_strs c c', List.cons.injEq]
    by_cases h : a = b <;> simp [h]
theorem lay_strs : ∀ c : List (List Nat), (∀ x ∈ c, ∀ n ∈ x, n < 1114112) → PyData.canLayAll0 ((c.map mkS).map PyData.str) = true
  | [], _ => rfl
  | a :: c, h => by
    simp only [List.map_cons, PyData.canLayAll0, PyData.canLay0, Bool.and_eq_true]
    refine ⟨?_, lay_strs c fun x hx => h x (by simp [hx])⟩
    show (mkS a).cps.all _ = true
    simp only [mkS, List.all_toArray, List.all_eq_true, decide_eq_true_eq]
    exact fun n hn => h a (by simp) n hn
theorem depth_strs : ∀ c : List Str, PyData.depthAll (c.map PyData.str) = 0
  | [] => rfl
  | a :: c => by simp [PyData.depthAll, PyData.depth, depth_strs c]
theorem shaped_strs (c : List (List Nat)) (h : ∀ x ∈ c, ∀ n ∈ x, n < 1114112) : shaped (.list ((c.map mkS).map PyData.str)) = true := by
  simp only [shaped, PyData.canLay0, PyData.depth, depth_strs, lay_strs c h, Bool.true_and, decide_eq_true_eq]
  decide
theorem alike_eq {l1 l2 : List Nat} (h1 : LeadF l1) (h2 : LeadF l2) : decide ((sigL l1).map mkS = (sigL l2).map mkS) = decide ((wsL l1).count = (wsL l2).count ∧ ((wsL l1).b : Int) = (wsL l2).b) := by
  rw [decide_eq_decide]
  constructor
  · intro h
    have e := map_mkS_inj h
    have := h1.sig2.symm.trans ((congrArg toNorm e).trans h2.sig2)
    simp only [Prod.mk.injEq] at this
    exact ⟨this.1, by rw [this.2]⟩
  · rintro ⟨e1, e2⟩
    rw [h1.sig1, h2.sig1, e1, show (wsL l1).b = (wsL l2).b by omega]

def dueAt (l1 l2 : List Nat) (k : Nat) : PyData := .tuple [.int ((k : Int) + 1), .int ((colsL l1).getD k 0), .int ((colsL l2).getD k 0)]
def dueL (l1 l2 : List Nat) (n : Nat) : List PyData := ((List.range n).filter fun (k : Nat) => !((colsL l1).getD k 0 == (colsL l2).getD k 0)).map (dueAt l1 l2)
theorem wit_due {l1 l2 : List Nat} (h1 : LeadF l1) (h2 : LeadF l2) : ∀ n, n ≤ 8 → witD (wsL l1).count (wsL l1).b (wsL l1).nt (wsL l2).count (wsL l2).b (wsL l2).nt n = dueL l1 l2 n
  | 0, _ => rfl
  | n + 1, hn => by
    have ih := wit_due h1 h2 n (by omega)
    have e1 : indD (wsL l1).count (wsL l1).b (wsL l1).nt (n + 1) = (colsL l1).getD n 0 := h1.ind n (by omega)
    have e2 : indD (wsL l2).count (wsL l2).b (wsL l2).nt (n + 1) = (colsL l2).getD n 0 := h2.ind n (by omega)
    unfold dueL at ih ⊢
    rw [filter_range_succ, ← ih]
    simp only [witD, e1, e2]
    congr 1
    by_cases h : (colsL l1).getD n 0 = (colsL l2).getD n 0
    · rw [if_pos h, if_neg (by rw [h]; simp)]
    · rw [if_neg h, if_pos (by simpa using h)]
      simp [dueAt]
theorem wit_nil {c : List Int} {b nt : Int} : ∀ n, witD c b nt c b nt n = []
  | 0 => rfl
  | n + 1 => by simp [witD, wit_nil n]
theorem due_shaped (l1 l2 : List Nat) (n : Nat) : shaped (.list (dueL l1 l2 n)) = true := by
  unfold dueL
  generalize (List.range n).filter _ = ks
  have h : ∀ ks : List Nat, PyData.canLayAll0 (ks.map (dueAt l1 l2)) = true ∧ PyData.depthAll (ks.map (dueAt l1 l2)) ≤ 1 := by
    intro ks
    induction ks with
    | nil => exact ⟨rfl, Nat.zero_le _⟩
    | cons k r ih =>
      refine ⟨?_, ?_⟩
      · simp only [List.map_cons, dueAt, PyData.canLayAll0, PyData.canLay0, ih.1, Bool.and_true]
      · simp only [List.map_cons, PyData.depthAll]
        have h2 : (dueAt l1 l2 k).depth = 1 := by simp [dueAt, PyData.depth, PyData.depthAll]
        have := ih.2
        omega
  simp only [shaped, PyData.canLay0, (h ks).1, Bool.true_and, decide_eq_true_eq]
  have := (h ks).2
  simp only [PyData.depth]
  omega
theorem due_refl (l1 l2 : List Nat) (n : Nat) : PyData.eqv (.list (dueL l1 l2 n)) (.list (dueL l1 l2 n)) = true := eqv_refl _ (canLay_of_shaped (due_shaped l1 l2 n))
end Mine

end
section
set_option Elab.async false
set_option maxRecDepth 100000
set_option maxHeartbeats 4000000
set_option autoImplicit false
set_option linter.unusedVariables false
set_option linter.unusedSimpArgs false
namespace Mine
open PySem PySem.W PyProof.Rows PySem.Calls PySem.SeqAt

theorem okPair {K : Frag} (H : FnAt K 135 (stmtAt 13) "_law_pair") : ∃ pm cd, FnOk K 135 (fdOf (stmtAt 13) "_law_pair" pm cd) ["one", "two"] (fBody (stmtAt 13)) :=
  H.ok _ rfl rfl rfl (fun pm cd => two_args rfl fun a b => rfl) (by decide) (by intro x hx; rcases List.mem_cons.mp hx with rfl | hx; exact .inr rfl; rw [List.mem_singleton.mp hx]; exact .inr rfl)

theorem runsL_ne (l : List Nat) : runsL l ≠ [] := by
  cases l with
  | nil => simp [runsL]
  | cons c r =>
    unfold runsL
    split
    · simp
    · cases runsL r <;> simp
theorem pick_init {α : Type} (l : List α) : pickL l none (some (-1)) = l.dropLast := by
  unfold pickL kms_lo kms_hi
  simp only [List.drop_zero, Nat.sub_zero]
  rw [if_pos (by decide), List.dropLast_eq_take]; rfl
theorem pick_last {α : Type} (l : List α) (d : α) (h : l ≠ []) : pickL l (some (-1)) none = [l.getLastD d] := by
  obtain ⟨i, x, rfl⟩ : ∃ i x, l = i ++ [x] := ⟨l.dropLast, l.getLast h, (List.dropLast_concat_getLast h).symm⟩
  unfold pickL kms_lo kms_hi
  dsimp only
  rw [if_pos (by decide)]
  have e : (i ++ [x]).length - (-(-1 : Int)).toNat = i.length := by rw [List.length_append]; rfl
  rw [e]; simp
theorem sigL_last (l : List Nat) : (sigL l).map mkS = (sortL (runsL l).dropLast).map mkS ++ pickL ((runsL l).map mkS) (some (-1)) none := by
  rw [pickL_map, pick_last _ [] (runsL_ne l), sigL, List.map_append]
theorem mem_le_maxRun : ∀ {rs : List (List Nat)} {x : List Nat}, x ∈ rs → x.length ≤ maxRun rs
  | y :: r, x, h => by
    simp only [maxRun, List.foldr_cons]
    rcases List.mem_cons.mp h with rfl | h
    · omega
    · have := mem_le_maxRun h; unfold maxRun at this; omega
theorem maxRun_mem : ∀ {rs : List (List Nat)}, rs ≠ [] → ∃ x ∈ rs, x.length = maxRun rs
  | [y], _ => ⟨y, by simp, by simp [maxRun]⟩
  | y :: z :: r, _ => by
    obtain ⟨x, hx, e⟩ := maxRun_mem (rs := z :: r) (by simp)
    simp only [maxRun, List.foldr_cons] at e ⊢
    by_cases h : (max z.length (List.foldr (fun x m => max x.length m) 0 r)) ≤ y.length
    · exact ⟨y, by simp, by omega⟩
    · exact ⟨x, by simp at hx ⊢; right; exact hx, by omega⟩
theorem runs_len : ∀ l : List Nat, (runsL l).length ≤ l.length + 1
  | [] => by simp [runsL]
  | c :: r => by
    have := runs_len r
    unfold runsL
    split
    · simp; exact this
    · cases q : runsL r with
      | nil => simp
      | cons x xs => rw [q] at this; simp at this ⊢; omega
theorem runs_blank : ∀ (l : List Nat), (∀ c ∈ l, blank c = true) → ∀ x ∈ runsL l, ∀ n ∈ x, n < 1114112
  | [], _, x, hx, n, hn => by simp [runsL] at hx; subst hx; simp at hn
  | c :: r, h, x, hx, n, hn => by
    have ih := runs_blank r fun y hy => h y (by simp [hy])
    have hc := h c (by simp)
    have hc' : c < 1114112 := by simp [blank] at hc; omega
    unfold runsL at hx
    split at hx
    · rcases List.mem_cons.mp hx with rfl | hx
      · simp at hn
      · exact ih x hx n hn
    · cases q : runsL r with
      | nil => rw [q] at hx; simp at hx; subst hx; simp at hn; omega
      | cons y ys =>
        rw [q] at hx ih
        rcases List.mem_cons.mp hx with rfl | hx
        · rcases List.mem_cons.mp hn with rfl | hn
          · exact hc'
          · exact ih y (by simp) n hn
        · exact ih x (by simp [hx]) n hn
theorem sig_blank {l : List Nat} (h : LeadF l) : ∀ x ∈ sigL l, ∀ n ∈ x, n < 1114112 := by
  intro x hx n hn
  have hp := h.srt
  unfold sortOk at hp
  simp only [Bool.and_eq_true] at hp
  unfold sigL at hx
  rcases List.mem_append.mp hx with hx | hx
  · have := (List.isPerm_iff.mp hp.2).mem_iff.mp hx
    exact runs_blank l h.blank x ((List.dropLast_prefix _).subset this) n hn
  · rw [List.mem_singleton.mp hx] at hn
    have hm : (runsL l).getLastD [] ∈ runsL l := by
      rw [List.getLastD_eq_getLast?, List.getLast?_eq_some_getLast (runsL_ne l)]
      exact List.getLast_mem _
    exact runs_blank l h.blank _ hm n hn
end Mine

end
section
set_option Elab.async false
set_option maxRecDepth 100000
set_option maxHeartbeats 4000000
set_option autoImplicit false
set_option linter.unusedVariables false
set_option linter.unusedSimpArgs false
namespace Mine
open PySem PySem.W PyProof.Rows PySem.Calls PySem.SeqAt

section
variable {T : Tx} {ρ : Rho}
/-- sorted(runs[:-1]) + runs[-1:] -/
theorem ev_sig (G : GOk T.mg T.mb) {l : List Nat} (h : LeadF l) {x : Str} {np cp p1 p2 p3 p4 p5 p6 p7 p8 pos : Pos} {k1 k2 : Nat} (hx : EV T ρ (.Name x p1) (.py (.list (((runsL l).map mkS).map .str)))) (hx2 : EV T ρ (.Name x p5) (.py (.list (((runsL l).map mkS).map .str)))) (hs : T.env.kindOf "sorted" = some .globalImplicit)
    (hst : starEach [.Subscript (.Name x p1) (.Slice none (some (.UnaryOp .USub (.Constant (.int 1) k1 p2) p3)) none p4) p8] T.env = [(false, eval (.Subscript (.Name x p1) (.Slice none (some (.UnaryOp .USub (.Constant (.int 1) k1 p2) p3)) none p4) p8) T.env)] := by rfl)
    (he : eval (.Call (.Name "sorted" np) [.Subscript (.Name x p1) (.Slice none (some (.UnaryOp .USub (.Constant (.int 1) k1 p2) p3)) none p4) p8] [] cp) T.env = (do callWith cp (← eval (.Name "sorted" np) T.env) [] (backTo cp (starEach [.Subscript (.Name x p1) (.Slice none (some (.UnaryOp .USub (.Constant (.int 1) k1 p2) p3)) none p4) p8] T.env)) (backToKw cp (keywordEach [] T.env))) := by rfl) {p9 p10 : Pos} :
    EV T ρ (.BinOp (.Call (.Name "sorted" np) [.Subscript (.Name x p1) (.Slice none (some (.UnaryOp .USub (.Constant (.int 1) k1 p2) p3)) none p4) p8] [] cp) .Add (.Subscript (.Name x p5) (.Slice (some (.UnaryOp .USub (.Constant (.int 1) k2 p6) p7)) none none p9) p10) pos)
      (.py (.list (((sigL l).map mkS).map .str))) := by
  have hl := h.len
  have hr := runs_len l
  have hlen : (((runsL l).map mkS).map PyData.str).length ≤ sizeLine := by rw [List.length_map, List.length_map, sizeLine_eq]; omega
  have hso : (sortL (runsL l).dropLast).length ≤ 21 := by
    have hp := h.srt
    unfold sortOk at hp
    simp only [Bool.and_eq_true] at hp
    rw [(List.isPerm_iff.mp hp.2).length_eq, List.length_dropLast]; omega
  rw [sigL_last, List.map_append, ← pickL_map]
  refine ev_addL (ev_bcall (ev_bui G.sorted.1 G.sorted.2 hs) (fun a h => by cases h) (evs_cons (d := .py (.list ((((runsL l).dropLast).map mkS).map .str))) ?_ evs_nil hst) (fun O s vs F r => op_sorted F r (by rw [List.length_map, List.length_dropLast]; omega) (sorted_runs h.srt)) he (by rw [hst]; rfl)) (ev_sliceL (lo := some (-1)) (hi := none) hx2 (ev_neg ev_int) trivial hlen) ?_
  · rw [← pick_init (runsL l), ← pickL_map, ← pickL_map]
    exact ev_sliceL (lo := none) (hi := some (-1)) hx trivial (ev_neg ev_int) hlen
  · have := pickL_len (((runsL l).map mkS).map PyData.str) (some (-1)) none
    rw [List.length_map, List.length_map] at this ⊢
    rw [sizeLine_eq]; omega
end

variable {prog : Program} {w : World} {K : Frag} {mg mb : Str → Option Value}
theorem ct_pair (G : GOk mg mb) (H : KOk K) (l1 l2 : List Nat) (h1 : LeadF l1) (h2 : LeadF l2) : CT prog w K mg mb 4 (.ref 135) [.py (rowD l1), .py (rowD l2)] (.py (.bool true)) := by
  obtain ⟨pm, cd, HO⟩ := okPair H.pair
  refine ct_def HO rfl fun X A L s₀ s E O F => ?_
  let T := Tx.mk prog w K mg mb (cxOf X (fdOf (stmtAt 13) "_law_pair" pm cd) L 135 s₀) A (callEnvC (fdOf (stmtAt 13) "_law_pair" pm cd) L 135) 3
  have hl1 := h1.len
  have hl2 := h2.len
  have ev0 : ∀ {T' : Tx} {ρ : Rho} {x : Str} {l : List Nat} {np kp pos : Pos}, EV T' ρ (.Name x np) (.py (rowD l)) → EV T' ρ (.Subscript (.Name x np) (.Constant (.int 0) 0 kp) pos) (.py (.str (mkS l))) := fun h => ev_idxL h ev_int (by omega) (by omega) rfl
  refine ex_assign (T := T) (d := .py (.list (((runsL l1).map mkS).map .str))) O F ?_ (.inl rfl) fun s1 F1 K1 => ?_
  · rw [← h1.split]; exact ev_split (y := mkS [9]) (ev0 (ev_name rfl)) (evs_cons ev_str evs_nil) rfl (by rw [mkS_len, sizeLine_eq]; omega)
  refine ex_assign (T := T) (d := .py (.list (((runsL l2).map mkS).map .str))) O F1 ?_ (.inl rfl) fun s2 F2 K2 => ?_
  · rw [← h2.split]; exact ev_split (y := mkS [9]) (ev0 (ev_name rfl)) (evs_cons ev_str evs_nil) rfl (by rw [mkS_len, sizeLine_eq]; omega)
  refine ex_assign (T := T) (d := .py (.bool (decide ((wsL l1).count = (wsL l2).count ∧ ((wsL l1).b : Int) = (wsL l2).b)))) O F2 ?_ (.inl rfl) fun s3 F3 K3 => ?_
  · rw [← alike_eq h1 h2, ← eqv_strs]
    exact ev_eq (ev_sig G h1 (ev_name rfl) (ev_name rfl) rfl) (ev_sig G h2 (ev_name rfl) (ev_name rfl) rfl) (shaped_strs _ (sig_blank h1)) (shaped_strs _ (sig_blank h2))
  have evW : ∀ {ρ : Rho} {x : Str} {l : List Nat} {np cp p1 p2 p3 p4 p5 : Pos} {k : Nat} {c : Nat} {r : List Nat} {tx : Str}, LeadF l → EV T ρ (.Name x p1) (.py (rowD l)) → blank c = false → tx = mkS (c :: r) → r.length ≤ 5 →
      EV T ρ (.Call (.Name "Whitespace" np) [.BinOp (.Subscript (.Name x p1) (.Constant (.int 0) 0 p2) p3) .Add (.Constant (.str tx) k p4) p5] [] cp) (.ws (wsL l).count (wsL l).b (wsL l).nt) := by
    intro ρ x l np cp p1 p2 p3 p4 p5 k c r tx hl hx hc ht hr
    have hlen := hl.len
    have := ct_ws (prog := prog) (w := w) G H.cls H.init (mkS (l ++ c :: r)) (by rw [mkS_len, List.length_append, List.length_cons]; omega)
    rw [wsOf_mkS, wsL_app hl.blank hc] at this
    refine ev_call (T := T) (ev_glob G.ws rfl) (evs_cons ?_ evs_nil) this (Nat.le_refl _) (H.k 83)
    rw [← mkS_append, ← ht]
    exact ev_addS (ev0 hx) ev_str (by rw [ht, mkS_len, mkS_len, sizeLine_eq, List.length_cons]; omega)
  refine ex_assign (T := T) O F3 (evW (c := 120) (r := [9]) h1 (ev_name rfl) rfl rfl (by decide)) (.inl rfl) fun s4 F4 K4 => ?_
  refine ex_assign (T := T) O F4 (evW (c := 10) (r := [32]) h2 (ev_name rfl) rfl rfl (by decide)) (.inl rfl) fun s5 F5 K5 => ?_
  generalize hal : decide ((wsL l1).count = (wsL l2).count ∧ ((wsL l1).b : Int) = (wsL l2).b) = al at *
  refine ex_if (T := T) (b := !(al == al)) O F5 ?_ (fun e => ?_) (fun e s6 F6 K6 => ?_)
  · refine tv_isNot ?_ (ev_name rfl)
    rw [← hal]
    exact ev_mcall (T := T) (f := 59) (n := 1) (d := .ws (wsL l1).count (wsL l1).b (wsL l1).nt) (ev_name rfl) (evs_cons (ev_name rfl) evs_nil) (fun s v F r => ws_method H.cls H.cls.equal H.cls.equalF (by simp) O s v F r) (ct_equal H.cls H.equal _ _ _ _ _ _) (by show 1 ≤ 3; decide) (H.k 59)
  · simp at e
  refine ex_nil (T := T) ?_
  let topN := max (maxRun (runsL l1)) (maxRun (runsL l2)) + 1
  have htop : topN ≤ 8 := by have := h1.maxr; have := h2.maxr; show max _ _ + 1 ≤ 8; omega
  have hrl1 := runs_len l1
  have hrl2 := runs_len l2
  refine ex_assign (T := T) (d := .py (.int (topN : Int))) O F6 ?_ (.inl rfl) fun s7 F7 K7 => ?_
  · have e : (topN : Int) = ((max (maxRun (runsL l1)) (maxRun (runsL l2)) : Nat) : Int) + 1 := by show ((max _ _ + 1 : Nat) : Int) = _; omega
    rw [e]
    let all := runsL l1 ++ runsL l2
    have hitems : ((runsL l1).map mkS).map PyData.str ++ ((runsL l2).map mkS).map PyData.str = (all.map mkS).map PyData.str := by simp [all]
    have hns : (all.map fun x => (x.length : Int)).map PyData.int = ((List.range ((all.map mkS).map PyData.str).length).filter fun _ => true).map fun i => PyData.int (((all.getD i []).length : Nat) : Int) := by
      rw [comp_all _ (fun i => (((all.getD i []).length : Nat) : Int)) PyData.int, List.length_map, List.length_map]
      congr 1
      apply List.ext_getElem
      · simp
      · intro i h1 h2
        simp only [List.getElem_map, List.getElem_range]
        simp only [List.length_map] at h1
        simp [List.getD, h1]
    refine ev_add (ev_bcall (ev_bui G.max.1 G.max.2 rfl) (fun a h => by cases h) (evs_cons (d := .py (.list ((all.map fun x => (x.length : Int)).map .int))) ?_ evs_nil) fun O s vs F r => op_maxL O F r ?_ ?_) ev_int
    · rw [hns]
      refine ev_comp (T := T) (fun _ => true) _ (ρc := []) (cl := []) (items := (all.map mkS).map PyData.str) ⟨rfl, rfl, by decide, by decide, rfl, vis_nil, fun _ => rfl⟩ (by rw [List.length_map, List.length_map, sizeLine_eq]; simp [all]; omega) (it_list ?_) (fun C D s₂ i d hd => rfl) (fun C D s₂ i d hd _ => ?_)
      · rw [← hitems]
        exact ev_addL (ev_name rfl) (ev_name rfl) (by simp only [List.length_map, sizeLine_eq]; omega)
      · rw [List.getElem?_map, List.getElem?_map] at hd
        cases q : all[i]? with
        | none => rw [q] at hd; cases hd
        | some x =>
          rw [q] at hd
          cases hd
          have hx : all.getD i [] = x := by simp [List.getD, q]
          rw [hx, ← mkS_len]
          refine ev_lenS G (ev_name rfl) ?_ rfl
          rw [mkS_len]
          have hm := List.mem_of_getElem? q
          rcases List.mem_append.mp hm with hm | hm
          · have := mem_le_maxRun hm; have := h1.maxr; omega
          · have := mem_le_maxRun hm; have := h2.maxr; omega
    · rw [List.mem_map]
      by_cases hm : maxRun (runsL l1) ≤ maxRun (runsL l2)
      · obtain ⟨x, hx, e⟩ := maxRun_mem (runsL_ne l2)
        exact ⟨x, List.mem_append_right _ hx, by rw [e, Nat.max_eq_right hm]⟩
      · obtain ⟨x, hx, e⟩ := maxRun_mem (runsL_ne l1)
        exact ⟨x, List.mem_append_left _ hx, by rw [e, Nat.max_eq_left (by omega)]⟩
    · intro a ha
      obtain ⟨x, hx, rfl⟩ := List.mem_map.mp ha
      rcases List.mem_append.mp hx with hm | hm
      · have := mem_le_maxRun hm; omega
      · have := mem_le_maxRun hm; omega
  let dueV : List PyData := if al = true then [] else dueL l1 l2 topN
  have hwit : witD (wsL l1).count (wsL l1).b (wsL l1).nt (wsL l2).count (wsL l2).b (wsL l2).nt topN = dueV := by
    show _ = if al = true then [] else _
    split
    · rename_i h
      rw [← hal] at h
      obtain ⟨e1, e2⟩ := of_decide_eq_true h
      have e3 : ((wsL l1).nt : Int) = (wsL l2).nt := by rw [h1.nt, h2.nt, e1]
      rw [e1, e2, e3, wit_nil]
    · exact wit_due h1 h2 topN htop
  have hshape : shaped (.list dueV) = true := by
    show shaped (.list (if al = true then [] else dueL l1 l2 topN)) = true
    split
    · rfl
    · exact due_shaped _ _ _
  have hrefl : PyData.eqv (.list dueV) (.list dueV) = true := eqv_refl _ (canLay_of_shaped hshape)
  have hcols1 := colsL_len l1
  have hcols2 := colsL_len l2
  have evC : ∀ {T' : Tx} {ρ : Rho} {x : Str} {l : List Nat} {n1 n2 n3 n4 n5 : Pos} {k : Nat}, EV T' ρ (.Name x n1) (.py (rowD l)) → EV T' ρ (.Name "k" n4) (.py (.int (k : Int))) → k < 8 → EV T' ρ (.Subscript (.Subscript (.Name x n1) (.Constant (.int 1) 0 n2) n3) (.Name "k" n4) n5) (.py (.int ((colsL l).getD k 0))) := by
    intro T' ρ x l n1 n2 n3 n4 n5 k hx hk h8
    refine ev_idxL (ds := (colsL l).map .int) (ev_idxL hx ev_int (by omega) (by omega) rfl) hk (by omega) (by omega) ?_
    have h8' : k < (colsL l).length := by rw [colsL_len]; exact h8
    rw [Int.toNat_natCast, List.getElem?_map, List.getElem?_eq_getElem h8']; simp [List.getD, List.getElem?_eq_getElem h8']
  refine ex_assign (T := T) (d := .py (.list dueV)) O F7 ?_ (.inl rfl) fun s8 F8 K8 => ?_
  · refine ev_if (tv_plain (ev_name (d := .py (.bool al)) rfl) rfl) (fun e => ?_) (fun e => ?_)
    · rw [show dueV = [] from if_pos e]; exact ev_list (ds := []) evs_nil
    · have e' : dueV = ((List.range (rangeD 0 (topN : Int).toNat).length).filter fun k => !((colsL l1).getD k 0 == (colsL l2).getD k 0)).map (dueAt l1 l2) := by
        rw [rangeD_length, Int.toNat_natCast]; exact if_neg (by rw [e]; decide)
      rw [e']
      refine ev_comp (T := T) _ (dueAt l1 l2) (ρc := [("one", .py (rowD l1)), ("two", .py (rowD l2))]) (cl := [("two", L + 2), ("one", L + 1)]) ⟨rfl, rfl, by decide, by decide, rfl, vis_cons rfl rfl rfl rfl (vis_cons rfl rfl rfl rfl vis_nil), fun _ => rfl⟩ (by rw [rangeD_length, Int.toNat_natCast, sizeLine_eq]; omega)
        (it_range1 (ev_bui G.range.1 G.range.2 rfl) (evs_cons (ev_name rfl) evs_nil) (by omega) (by omega)) (fun C D s₂ k d hd => ?_) (fun C D s₂ k d hd _ => ?_)
      · obtain ⟨rfl, hk⟩ := rangeD_get hd
        rw [Int.zero_add]
        rw [Int.toNat_natCast] at hk
        exact tv_ne (evC (ev_name rfl) (ev_name rfl) (by omega)) (evC (ev_name rfl) (ev_name rfl) (by omega)) rfl rfl
      · obtain ⟨rfl, hk⟩ := rangeD_get hd
        rw [Int.zero_add]
        rw [Int.toNat_natCast] at hk
        exact ev_tuple (ds := [.int ((k : Int) + 1), .int ((colsL l1).getD k 0), .int ((colsL l2).getD k 0)]) (evs_cons (ev_add (ev_name rfl) ev_int) (evs_cons (evC (ev_name rfl) (ev_name rfl) (by omega)) (evs_cons (evC (ev_name rfl) (ev_name rfl) (by omega)) evs_nil)))
  refine ex_return (T := T) (d := .py (.bool true)) O F8 ?_ fun v s' F' K' R' => ⟨v, rfl, F'.toSt, R'⟩
  rw [← hrefl]
  refine ev_eq ?_ (ev_name rfl) hshape hshape
  rw [← hwit]
  refine ev_mcall (T := T) (f := 66) (n := 2) (d := .ws (wsL l1).count (wsL l1).b (wsL l1).nt) (ev_name rfl) (evs_cons (ev_name rfl) evs_nil) (fun s v F r => ws_method H.cls H.cls.wit H.cls.witF (by simp) O s v F r)
    (ct_wit G H.cls H.wit H.indent H.long (H.k 52) (H.k 45) _ _ _ _ _ _ (wsL_bound l1 (by omega)) (wsL_bound l2 (by omega)) topN ?_ (by omega)) (by show 2 ≤ 3; decide) (H.k 66)
  rw [h1.long, h2.long]
  show max _ _ + 1 = ((max _ _ + 1 : Nat) : Int)
  omega
end Mine

end
section
set_option Elab.async false
set_option maxRecDepth 100000
set_option maxHeartbeats 4000000
set_option autoImplicit false
set_option linter.unusedVariables false
namespace Mine
open PySem PySem.W PyProof.Rows PySem.Calls PySem.SeqAt

/-! the plain law: rulers -/
def gpL (zs : List Int) : List Int := gapsD zs (zs.length + 2)
def turnsL (zs : List Int) : List Nat := (List.range (gpL zs).length).filter fun k => !((gpL zs).getD k 0 == (gpL zs).getD 0 0)
def kT (zs : List Int) : Nat := (turnsL zs).headD 0
def g0 (zs : List Int) : Int := (gpL zs).getD 0 0
def gk (zs : List Int) : Int := (gpL zs).getD (kT zs) 0
def runT (zs : List Int) : Nat := (min (g0 zs) (gk zs)).toNat
def oneL (zs : List Int) : List Nat := List.replicate (kT zs - 1) 9 ++ List.replicate (runT zs) 32 ++ [9, 9]
def twoL (zs : List Int) : List Nat := List.replicate (kT zs) 9 ++ List.replicate (runT zs) 32 ++ [9]
def dueT (zs : List Int) : List Int := [(pickL (gpL zs) none (some ((kT zs : Int) + 1))).sum, (pickL (gpL zs) none (some ((kT zs : Int) + 2))).sum]
def toldT (zs : List Int) : List Int := [standD (oneL zs) zs, standD (twoL zs) zs]
def sideD (a b : List Nat) : Int := b2i (decide (b < a)) - b2i (decide (a < b))
def rulerOk (zs : List Int) : Bool :=
  goodZb zs && decide (zs.length ≤ 8) && decide (0 < (gpL zs).length) && decide ((gpL zs).length ≤ 12) && decide (1 ≤ g0 zs) && decide (g0 zs ≤ 1000) &&
  (if turnsL zs = [] then (allLeads 5).all fun l => decide (standD l zs = indL l (g0 zs).toNat)
   else decide (toldT zs = if gk zs < g0 zs then dueT zs else (dueT zs).reverse) && leadOk (oneL zs) && sortOk (oneL zs) && leadOk (twoL zs) && sortOk (twoL zs) && decide (sideD (oneL zs) (twoL zs) = 1) &&
     decide (1 ≤ kT zs) && decide (kT zs < (gpL zs).length) && decide (kT zs ≤ 12) && decide (1 ≤ min (g0 zs) (gk zs)) && decide (min (g0 zs) (gk zs) ≤ 12))
def draws : List (List Int) := ([1, 2, 3] : List Int).flatMap fun a => [a] :: (([1, 2, 3] : List Int).flatMap fun b => [a, b] :: (([1, 2, 3] : List Int).map fun c => [a, b, c]))
def scalesL (d : List Int) : List (List Int) := [d ++ [0, 5, 127], d ++ [127, 1, 0], d.take 1 ++ [0]]
def scalesA (d : List Int) : List (List Int) := [d ++ [0, 5, 127], d ++ [127, 1, 0]]
def scalesB : List (List Int) := [[1, 0], [2, 0], [3, 0]]
/-- the leads of which a ruler with gaps of two sizes tells -/
def wideL : List (List Nat) := [1, 2, 3].flatMap fun k => [1, 2].flatMap fun r => [List.replicate (k - 1) 9 ++ List.replicate r 32 ++ [9, 9], List.replicate k 9 ++ List.replicate r 32 ++ [9]]
theorem wide_ok : wideL.all (fun l => leadOk l && sortOk l) = true := by decide +kernel
def rulerQ (zs : List Int) : Bool :=
  goodZb zs && decide (zs.length ≤ 8) && decide (0 < (gpL zs).length) && decide ((gpL zs).length ≤ 12) && decide (1 ≤ g0 zs) && decide (g0 zs ≤ 1000) &&
  (if turnsL zs = [] then (allLeads 5).all fun l => decide (standD l zs = indL l (g0 zs).toNat)
   else decide (toldT zs = if gk zs < g0 zs then dueT zs else (dueT zs).reverse) && wideL.contains (oneL zs) && wideL.contains (twoL zs) && decide (sideD (oneL zs) (twoL zs) = 1) &&
     decide (1 ≤ kT zs) && decide (kT zs < (gpL zs).length) && decide (kT zs ≤ 12) && decide (1 ≤ min (g0 zs) (gk zs)) && decide (min (g0 zs) (gk zs) ≤ 12))
theorem rulerQ_ok {zs : List Int} (h : rulerQ zs = true) : rulerOk zs = true := by
  have wide : ∀ l : List Nat, wideL.contains l = true → leadOk l = true ∧ sortOk l = true := fun l hl => by
    have := List.all_eq_true.mp wide_ok l (List.contains_iff_mem.mp hl)
    simpa only [Bool.and_eq_true] using this
  unfold rulerQ at h
  unfold rulerOk
  split at h
  · rename_i e; rw [if_pos e]; exact h
  · rename_i e; rw [if_neg e]
    simp only [Bool.and_eq_true] at h ⊢
    obtain ⟨h0, ⟨⟨⟨⟨⟨⟨⟨⟨h1, h2⟩, h3⟩, h4⟩, h5⟩, h6⟩, h7⟩, h8⟩, h9⟩⟩ := h
    exact ⟨h0, ⟨⟨⟨⟨⟨⟨⟨⟨⟨⟨h1, (wide _ h2).1⟩, (wide _ h2).2⟩, (wide _ h3).1⟩, (wide _ h3).2⟩, h4⟩, h5⟩, h6⟩, h7⟩, h8⟩, h9⟩⟩
theorem rulers_okQ : (draws.flatMap scalesA).all rulerQ = true := by decide +kernel
theorem rulers_okA : (draws.flatMap scalesA).all rulerOk = true := by
  rw [List.all_eq_true]
  exact fun zs hz => rulerQ_ok (List.all_eq_true.mp rulers_okQ zs hz)
theorem rulers_okB : scalesB.all rulerOk = true := by decide +kernel
theorem firsts_ok : draws.all (fun d => scalesB.contains (d.take 1 ++ [0])) = true := by decide +kernel
theorem rulers_ok : (draws.flatMap scalesL).all rulerOk = true := by
  rw [List.all_eq_true]
  intro zs hz
  obtain ⟨d, hd, h⟩ := List.mem_flatMap.mp hz
  simp only [scalesL, List.mem_cons, List.not_mem_nil, or_false] at h
  have hA : ∀ x ∈ scalesA d, rulerOk x = true := fun x hx => List.all_eq_true.mp rulers_okA x (List.mem_flatMap.mpr ⟨d, hd, hx⟩)
  rcases h with h | h | h
  · exact h ▸ hA _ List.mem_cons_self
  · exact h ▸ hA _ (List.mem_cons_of_mem _ List.mem_cons_self)
  · subst h
    exact List.all_eq_true.mp rulers_okB _ (List.contains_iff_mem.mp (List.all_eq_true.mp firsts_ok d hd))

/-! the plain law: the orders of a lead's runs -/
def joinL : List (List Nat) → List Nat
  | [] => []
  | [x] => x
  | x :: r => x ++ 9 :: joinL r
def riseL (l : List Nat) : List Nat := joinL (sigL l)
def fallS (l : List Nat) : List (List Nat) := (sortL (runsL l).dropLast).reverse ++ [(runsL l).getLastD []]
def fallL (l : List Nat) : List Nat := joinL (fallS l)
def givenOk (l : List Nat) : Bool :=
  (allLeads 5).contains (riseL l) && (allLeads 5).contains (fallL l) && (allLeads 6).contains (l ++ [32]) && (allLeads 6).contains (9 :: l) &&
  decide ((wsL (riseL l)).count = (wsL l).count ∧ (wsL (riseL l)).b = (wsL l).b ∧ (wsL (riseL l)).nt = (wsL l).nt) && decide ((wsL (fallL l)).count = (wsL l).count ∧ (wsL (fallL l)).b = (wsL l).b ∧ (wsL (fallL l)).nt = (wsL l).nt) &&
  decide (Txt.join (mkS [9]) ((sigL l).map mkS) = mkS (riseL l)) && decide (Txt.join (mkS [9]) ((fallS l).map mkS) = mkS (fallL l)) &&
  decide (sideD (riseL l) l = if riseL l = l then 0 else -1) && decide (sideD l (fallL l) = if l = fallL l then 0 else -1)
theorem given_ok : (allLeads 5).all givenOk = true := by decide +kernel
theorem up_ok : (allLeads 5).all (fun l => (allLeads 6).contains l) = true := by decide +kernel
end Mine

end
section
set_option Elab.async false
set_option maxRecDepth 100000
set_option maxHeartbeats 4000000
set_option autoImplicit false
set_option linter.unusedVariables false
set_option linter.unusedSimpArgs false
namespace Mine
open PySem PySem.W PyProof.Rows PySem.Calls PySem.SeqAt

theorem okBlind {K : Frag} (H : FnAt K 140 (stmtAt 14) "_law_blind") : ∃ pm cd, FnOk K 140 (fdOf (stmtAt 14) "_law_blind" pm cd) ["sizes", "leads"] (fBody (stmtAt 14)) :=
  H.ok _ rfl rfl rfl (fun pm cd => two_args rfl fun a b => rfl) (by decide) (by intro x hx; rcases List.mem_cons.mp hx with rfl | hx; exact .inr rfl; rw [List.mem_singleton.mp hx]; exact .inl rfl)
theorem okStrcoll {K : Frag} (H : FnAt K 94 (stmtAt 4) "_strcoll") : ∃ pm cd, FnOk K 94 (fdOf (stmtAt 4) "_strcoll" pm cd) ["a", "b"] (fBody (stmtAt 4)) :=
  H.ok _ rfl rfl rfl (fun pm cd => two_args rfl fun a b => rfl) (by decide) (by intro x hx; rcases List.mem_cons.mp hx with rfl | hx; exact .inl rfl; rw [List.mem_singleton.mp hx]; exact .inl rfl)

variable {prog : Program} {w : World} {K : Frag} {mg mb : Str → Option Value}
theorem ct_side (H : KOk K) (a b : List Nat) : CT prog w K mg mb 1 (.ref 94) [.py (.str (mkS a)), .py (.str (mkS b))] (.py (.int (sideD a b))) := by
  obtain ⟨pm, cd, HO⟩ := okStrcoll H.strcoll
  have := ct_strcoll (prog := prog) (w := w) (mg := mg) (mb := mb) HO rfl (mkS a) (mkS b)
  have e : ∀ x : List Nat, (mkS x).cps.toList = x := fun x => by simp [mkS]
  rw [e, e] at this
  exact this

theorem int_list_get {ns : List Int} {k : Nat} (h : k < ns.length) : (ns.map PyData.int)[((k : Int)).toNat]? = some (.int (ns.getD k 0)) := by
  rw [Int.toNat_natCast, List.getElem?_map, List.getElem?_eq_getElem h]; simp [List.getD, List.getElem?_eq_getElem h]
def natI (k : Nat) : Int := (k : Int)
theorem natD_list (ks : List Nat) : ks.map natD = (ks.map natI).map PyData.int := by rw [List.map_map]; rfl

theorem ct_blind (G : GOk mg mb) (H : KOk K) (zs : List Int) (hr : rulerOk zs = true) (ls : List (List Nat)) (hls : ∀ l ∈ ls, l ∈ allLeads 5) (hlen : ls.length = 3) (hsame : ∀ l ∈ ls, indL l (g0 zs).toNat = indL (ls.getD 0 []) (g0 zs).toNat) :
    CT prog w K mg mb 14 (.ref 140) [.py (.list (zs.map .int)), .py (.list ((ls.map mkS).map .str))] (.py (.bool true)) := by
  obtain ⟨pm, cd, HO⟩ := okBlind H.blind
  refine ct_def HO rfl fun X A L s₀ s E O F => ?_
  let T := Tx.mk prog w K mg mb (cxOf X (fdOf (stmtAt 14) "_law_blind" pm cd) L 140 s₀) A (callEnvC (fdOf (stmtAt 14) "_law_blind" pm cd) L 140) 13
  unfold rulerOk at hr
  simp only [Bool.and_eq_true, decide_eq_true_eq] at hr
  obtain ⟨⟨⟨⟨⟨⟨hgz, hzl⟩, hg1⟩, hg2⟩, hg3⟩, hg4⟩, hcase⟩ := hr
  have hgood := goodZb_of hgz
  have stG : STO T "gaps" := .inr ⟨rfl, _, rfl, .inr ⟨"gaps", rfl⟩⟩
  have stP : STO T "place" := .inr ⟨rfl, _, rfl, .inr ⟨"place", rfl⟩⟩
  refine ex_assign (T := T) (d := .py (.list ((gpL zs).map .int))) O F ?_ stG fun s1 F1 K1 => ?_
  · refine ev_call (n := 1) (ev_glob G.gaps rfl) (evs_cons (ev_name rfl) (evs_cons (d := .py (.int ((zs.length + 2 : Nat) : Int))) ?_ evs_nil)) (ct_gaps G H zs (zs.length + 2) (by omega) (by omega)) (by show 1 ≤ 13; decide) (H.k 111)
    have e : ((zs.length + 2 : Nat) : Int) = ((zs.map PyData.int).length : Int) + 2 := by rw [List.length_map]; omega
    rw [e]
    exact ev_add (ev_lenL G (ev_name rfl) (by rw [List.length_map]; omega) rfl) ev_int
  have hgl : ((gpL zs).map PyData.int).length = (gpL zs).length := List.length_map ..
  have ev0 : ∀ {T' : Tx} {ρ : Rho} {np kp pos : Pos}, EV T' ρ (.Name "gaps" np) (.py (.list ((gpL zs).map .int))) → EV T' ρ (.Subscript (.Name "gaps" np) (.Constant (.int 0) 0 kp) pos) (.py (.int (g0 zs))) := fun h => ev_idxL h ev_int (by omega) (by omega) (int_list_get (k := 0) hg1)
  have et : (turnsL zs).map natD = ((List.range (rangeD 0 (((gpL zs).map PyData.int).length : Int).toNat).length).filter fun k => !((gpL zs).getD k 0 == (gpL zs).getD 0 0)).map natD := by
    rw [rangeD_length, Int.toNat_natCast, hgl]; rfl
  refine ex_assign_comp (T := T) (fun k => !((gpL zs).getD k 0 == (gpL zs).getD 0 0)) natD (ρc := [("gaps", .py (.list ((gpL zs).map .int)))]) (cl := [("gaps", L + 2)]) (items := rangeD 0 (((gpL zs).map PyData.int).length : Int).toNat) rfl ⟨rfl, rfl, by decide, by decide, rfl, vis_cons rfl rfl rfl rfl vis_nil, fun _ => rfl⟩ (by rw [rangeD_length, Int.toNat_natCast, hgl, sizeLine_eq]; omega)
    (it_range1 (ev_bui G.range.1 G.range.2 rfl) (evs_cons (ev_lenL G (ev_name rfl) (by rw [hgl]; omega) rfl) evs_nil) (by omega) (by omega)) (fun C D s₂ k d hd => ?_) (fun C D s₂ k d hd _ => ?_) O F1 (.inl rfl) fun s2 F2 K2 => ?_
  · obtain ⟨rfl, hk⟩ := rangeD_get hd
    rw [Int.zero_add]
    rw [Int.toNat_natCast, hgl] at hk
    exact tv_ne (ev_idxL (ev_name rfl) (ev_name rfl) (by omega) (by omega) (int_list_get hk)) (ev0 (ev_name rfl)) rfl rfl
  · obtain ⟨rfl, hk⟩ := rangeD_get hd
    rw [Int.zero_add]
    exact ev_name rfl
  rw [← et, natD_list] at F2
  have hts : ((g0 zs).toNat : Int) = g0 zs := by omega
  have hlong : ∀ l ∈ ls, l.length ≤ 200 := fun l hl => by
    have : (allLeads 5).all (fun l => decide (l.length ≤ 200)) = true := by decide +kernel
    exact of_decide_eq_true (List.all_eq_true.mp this l (hls l hl))
  have items_get : ∀ {i : Nat} {d : PyData}, ((ls.map mkS).map PyData.str)[i]? = some d → d = .str (mkS (ls.getD i [])) ∧ ls.getD i [] ∈ ls := by
    intro i d hd
    rw [List.getElem?_map, List.getElem?_map] at hd
    cases q : ls[i]? with
    | none => rw [q] at hd; cases hd
    | some x =>
      rw [q] at hd
      cases hd
      have hx : ls.getD i [] = x := by simp [List.getD, q]
      rw [hx]; exact ⟨rfl, List.mem_of_getElem? q⟩
  refine ex_if (T := T) O F2 (b := decide ((turnsL zs).map natI = [])) ?_ (fun e s3 F3 K3 => ?_) (fun e s3 F3 K3 => ?_)
  · rw [← eqv_ints _ []]
    exact tv_eq (ev_name rfl) (ev_list (ds := []) evs_nil) (shaped_ints _) (shaped_ints [])
  · have hnil : turnsL zs = [] := List.map_eq_nil_iff.mp (of_decide_eq_true e)
    rw [if_pos hnil] at hcase
    have hst : ∀ l ∈ ls, standD l zs = indL (ls.getD 0 []) (g0 zs).toNat := fun l hl => (of_decide_eq_true (List.all_eq_true.mp hcase l (hls l hl))).trans (hsame l hl)
    have h0m : ls.getD 0 [] ∈ ls := by
      match ls, hlen with
      | [a, b, c], _ => simp
    have hget0 : ((ls.map mkS).map PyData.str)[(0 : Int).toNat]? = some (.str (mkS (ls.getD 0 []))) := by
      match ls, hlen with
      | [a, b, c], _ => rfl
    refine ex_assign (T := T) (d := .py (.int (indL (ls.getD 0 []) (g0 zs).toNat))) O F3 (ev_indent G H O (by show 3 ≤ 13; decide) (ev_idxL (ev_name rfl) ev_int (by omega) (by omega) hget0) (by rw [hts]; exact ev0 (ev_name rfl)) (hlong _ h0m) (by omega) (by omega) rfl) stP fun s4 F4 K4 => ?_
    refine ex_return (T := T) (d := .py (.bool true)) O F4 ?_ fun v s' F' K' R' => ⟨v, rfl, F'.toSt, R'⟩
    have e1 : ((List.range ((ls.map mkS).map PyData.str).length).map fun _ => indL (ls.getD 0 []) (g0 zs).toNat).map PyData.int = ((List.range ((ls.map mkS).map PyData.str).length).filter fun _ => true).map fun _ => PyData.int (indL (ls.getD 0 []) (g0 zs).toNat) := (comp_all _ _ _).symm
    have e2 : PyData.eqv (.list (((List.range ((ls.map mkS).map PyData.str).length).map fun _ => indL (ls.getD 0 []) (g0 zs).toNat).map PyData.int)) (.list (((List.range ((ls.map mkS).map PyData.str).length).map fun _ => indL (ls.getD 0 []) (g0 zs).toNat).map PyData.int)) = true := by
      show PyData.eqvAll _ _ = true
      rw [eqv_ints]; simp
    rw [← e2]
    refine ev_eq ?_ ?_ (shaped_ints _) (shaped_ints _)
    · rw [e1]
      refine ev_comp (T := T) (fun _ => true) _ (ρc := [("sizes", .py (.list (zs.map .int)))]) (cl := [("sizes", L + 1)]) (items := (ls.map mkS).map PyData.str) ⟨rfl, rfl, by decide, by decide, rfl, vis_cons rfl rfl rfl rfl vis_nil, fun _ => rfl⟩ (by rw [List.length_map, List.length_map, hlen, sizeLine_eq]; decide) (it_list (ev_name rfl)) (fun C D s₂ i d hd => rfl) (fun C D s₂ i d hd _ => ?_)
      obtain ⟨rfl, hm⟩ := items_get hd
      rw [← hst _ hm]
      exact ev_call (n := 11) (ev_glob G.stand rfl) (evs_cons (ev_name rfl) (evs_cons (ev_name rfl) evs_nil)) (ct_stand G H _ zs (hlong _ hm) hgood) (by show 11 ≤ 13; decide) (H.k 123)
    · rw [e1]
      refine ev_comp (T := T) (fun _ => true) _ (ρc := [("place", .py (.int (indL (ls.getD 0 []) (g0 zs).toNat)))]) (cl := [("place", L + 3)]) (items := (ls.map mkS).map PyData.str) ⟨rfl, rfl, by decide, by decide, rfl, vis_cons rfl rfl rfl rfl vis_nil, fun _ => rfl⟩ (by rw [List.length_map, List.length_map, hlen, sizeLine_eq]; decide) (it_list (ev_name rfl)) (fun C D s₂ i d hd => rfl) (fun C D s₂ i d hd _ => ev_name rfl)
  · have hnn : ¬ turnsL zs = [] := fun z => of_decide_eq_false e (by rw [z]; rfl)
    rw [if_neg hnn] at hcase
    simp only [Bool.and_eq_true, decide_eq_true_eq] at hcase
    obtain ⟨⟨⟨⟨⟨⟨⟨⟨⟨⟨htold, hl1⟩, hs1⟩, hl2⟩, hs2⟩, hside⟩, hk1⟩, hk2⟩, hk3⟩, hm1⟩, hm2⟩ := hcase
    refine ex_nil (T := T) ?_
    have evI : ∀ {ρ : Rho} {np kp pos : Pos}, ρ.lookup (Str.ofString "gaps") = some (.py (.list ((gpL zs).map .int))) → ρ.lookup (Str.ofString "k") = some (.py (.int (kT zs : Int))) → EV T ρ (.Subscript (.Name "gaps" np) (.Name "k" kp) pos) (.py (.int (gk zs))) := fun h1 h2 => ev_idxL (ev_name h1) (ev_name h2) (by omega) (by omega) (int_list_get hk2)
    refine ex_assign (T := T) (d := .py (.int (kT zs : Int))) O F3 (ev_idxL (ev_name rfl) ev_int (by omega) (by omega) ?_) (.inl rfl) fun s4 F4 K4 => ?_
    · unfold kT
      cases q : turnsL zs with
      | nil => exact absurd q hnn
      | cons a r => rfl
    refine ex_assign (T := T) (d := .py (.str (mkS (List.replicate (runT zs) 32)))) O F4 ?_ (.inl rfl) fun s5 F5 K5 => ?_
    · unfold runT
      rw [← mul_mkS]
      exact ev_mulS ev_str (ev_bcall (ev_bui G.min.1 G.min.2 rfl) (fun a h => by cases h) (evs_cons (ev0 (ev_name rfl)) (evs_cons (evI rfl rfl) evs_nil)) fun O s vs F r => op_min2 O F r) (mulOk1 (by omega))
    have hrT : runT zs ≤ 12 := by unfold runT; omega
    have hrl : (mkS (List.replicate (runT zs) 32)).length = runT zs := by rw [mkS_len, List.length_replicate]
    refine ex_assign (T := T) (d := .py (.str (mkS (oneL zs)))) O F5 ?_ (.inl rfl) fun s6 F6 K6 => ?_
    · have e : kT zs - 1 = ((kT zs : Int) - 1).toNat := by omega
      unfold oneL
      rw [← mkS_append, ← mkS_append, e, ← mul_mkS]
      refine ev_addS (ev_addS (ev_mulS ev_str (ev_sub (ev_name rfl) ev_int) (mulOk1 (by omega))) (ev_name rfl) ?_) ev_str ?_
      · rw [mul_mkS, mkS_len, List.length_replicate, hrl, sizeLine_eq]; omega
      · rw [mul_mkS, mkS_append, mkS_len, List.length_append, List.length_replicate, List.length_replicate, sizeLine_eq]; show _ + 2 ≤ _; omega
    refine ex_assign (T := T) (d := .py (.str (mkS (twoL zs)))) O F6 ?_ (.inl rfl) fun s7 F7 K7 => ?_
    · have e : List.replicate (kT zs) 9 = List.replicate ((kT zs : Int)).toNat 9 := by rw [Int.toNat_natCast]
      unfold twoL
      rw [← mkS_append, ← mkS_append, e, ← mul_mkS]
      refine ev_addS (ev_addS (ev_mulS ev_str (ev_name rfl) (mulOk1 (by omega))) (ev_name rfl) ?_) ev_str ?_
      · rw [mul_mkS, mkS_len, List.length_replicate, hrl, sizeLine_eq]; omega
      · rw [mul_mkS, mkS_append, mkS_len, List.length_append, List.length_replicate, List.length_replicate, sizeLine_eq]; show _ + 1 ≤ _; omega
    have evSum : ∀ {ρ : Rho} {n1 n2 n3 n4 n5 n6 n7 : Pos} {m : Int} {c : Nat}, ρ.lookup (Str.ofString "gaps") = some (.py (.list ((gpL zs).map .int))) → ρ.lookup (Str.ofString "k") = some (.py (.int (kT zs : Int))) →
        EV T ρ (.Call (.Name "sum" n1) [.Subscript (.Name "gaps" n2) (.Slice none (some (.BinOp (.Name "k" n3) .Add (.Constant (.int m) c n4) n5)) none n6) n7] [] n1) (.py (.int (pickL (gpL zs) none (some ((kT zs : Int) + m))).sum)) ∨ True := fun _ _ => .inr trivial
    have evSlice : ∀ {ρ : Rho} {n2 n3 n4 n5 n6 n7 : Pos} {m : Int} {c : Nat}, ρ.lookup (Str.ofString "gaps") = some (.py (.list ((gpL zs).map .int))) → ρ.lookup (Str.ofString "k") = some (.py (.int (kT zs : Int))) →
        EV T ρ (.Subscript (.Name "gaps" n2) (.Slice none (some (.BinOp (.Name "k" n3) .Add (.Constant (.int m) c n4) n5)) none n6) n7) (.py (.list ((pickL (gpL zs) none (some ((kT zs : Int) + m))).map .int))) := fun h1 h2 => by
      rw [← pickL_map]
      exact ev_sliceL (hi := some _) (lo := none) (ev_name h1) trivial (ev_add (ev_name h2) ev_int) (by rw [hgl, sizeLine_eq]; omega)
    refine ex_assign (T := T) (d := .py (.list ((dueT zs).map .int))) O F7 ?_ (.inl rfl) fun s8 F8 K8 => ?_
    · exact ev_list (ds := [.int (pickL (gpL zs) none (some ((kT zs : Int) + 1))).sum, .int (pickL (gpL zs) none (some ((kT zs : Int) + 2))).sum])
        (evs_cons (ev_bcall (ev_bui G.sum.1 G.sum.2 rfl) (fun a h => by cases h) (evs_cons (evSlice rfl rfl) evs_nil) fun O s vs F r => op_sum O F r) (evs_cons (ev_bcall (ev_bui G.sum.1 G.sum.2 rfl) (fun a h => by cases h) (evs_cons (evSlice rfl rfl) evs_nil) fun O s vs F r => op_sum O F r) evs_nil))
    have L1 := leadF_of hl1 hs1
    have L2 := leadF_of hl2 hs2
    have hlen1 := L1.len
    have hlen2 := L2.len
    refine ex_assign (T := T) (d := .py (.list ((toldT zs).map .int))) O F8 ?_ (.inl rfl) fun s9 F9 K9 => ?_
    · exact ev_list (ds := [.int (standD (oneL zs) zs), .int (standD (twoL zs) zs)])
        (evs_cons (ev_call (n := 11) (ev_glob G.stand rfl) (evs_cons (ev_name rfl) (evs_cons (ev_name rfl) evs_nil)) (ct_stand G H _ zs (by omega) hgood) (by show 11 ≤ 13; decide) (H.k 123))
          (evs_cons (ev_call (n := 11) (ev_glob G.stand rfl) (evs_cons (ev_name rfl) (evs_cons (ev_name rfl) evs_nil)) (ct_stand G H _ zs (by omega) hgood) (by show 11 ≤ 13; decide) (H.k 123)) evs_nil))
    refine ex_if (T := T) (b := false) O F9 ?_ (fun e => by cases e) (fun _ s10 F10 K10 => ?_)
    · have e2 : (!PyData.eqv (.list ((toldT zs).map .int)) (.list ((if gk zs < g0 zs then dueT zs else (dueT zs).reverse).map .int))) = false := by
        show (!PyData.eqvAll _ _) = false
        rw [eqv_ints, decide_eq_true htold]; rfl
      rw [← e2]
      refine tv_ne (ev_name rfl) (ev_if (tv_lt (evI rfl rfl) (ev0 (ev_name rfl))) (fun e => ?_) (fun e => ?_)) (shaped_ints _) (shaped_ints _)
      · rw [if_pos (of_decide_eq_true e)]; exact ev_name rfl
      · rw [if_neg (of_decide_eq_false e), List.map_reverse]
        exact ev_revL (ev_name rfl) (ev_neg ev_int) (by rw [List.length_map, sizeLine_eq]; show 2 ≤ _; omega)
    refine ex_nil (T := T) ?_
    refine ex_assign (T := T) (d := .py (.int 1)) O F10 ?_ (.inl rfl) fun s11 F11 K11 => ?_
    · rw [← hside]
      exact ev_call (n := 1) (ev_glob G.strcoll rfl) (evs_cons (ev_name rfl) (evs_cons (ev_name rfl) evs_nil)) (ct_side H _ _) (by show 1 ≤ 13; decide) (H.k 94)
    refine ex_return (T := T) (d := .py (.bool (true && (true && !false)))) O F11 ?_ fun v s' F' K' R' => ⟨v, rfl, F'.toSt, R'⟩
    refine ev_and3 (ev_call (n := 4) (ev_glob G.pair rfl) (evs_cons (ev_call (n := 1) (ev_glob G.row rfl) (evs_cons (ev_name rfl) evs_nil) (ct_row G H (oneL zs)) (by show 1 ≤ 13; decide) (H.k 116)) (evs_cons (ev_call (n := 1) (ev_glob G.row rfl) (evs_cons (ev_name rfl) evs_nil) (ct_row G H (twoL zs)) (by show 1 ≤ 13; decide) (H.k 116)) evs_nil)) (ct_pair G H _ _ L1 L2) (by show 4 ≤ 13; decide) (H.k 135))
      (fun _ => ?_) (fun _ _ => ev_not (ev_bcall (ev_bui G.isi.1 G.isi.2 rfl) (fun a h => by cases h) (evs_cons (ev_name rfl) (evs_cons (ev_bui G.bool.1 G.bool.2 rfl) evs_nil)) fun O s vs F r => op_isi r))
    exact ev_eq (a := .int 1) (b := .int 1) (ev_name rfl) ev_int rfl rfl
end Mine

end
section
set_option Elab.async false
set_option maxRecDepth 100000
set_option maxHeartbeats 8000000
set_option autoImplicit false
set_option linter.unusedVariables false
set_option linter.unusedSimpArgs false
namespace Mine
open PySem PySem.W PyProof.Rows PySem.Calls PySem.SeqAt

theorem okLaw {K : Frag} (H : FnAt K 145 (stmtAt 15) "law") : ∃ pm cd, FnOk K 145 (fdOf (stmtAt 15) "law" pm cd) ["script"] (fBody (stmtAt 15)) :=
  H.ok _ rfl rfl rfl (fun pm cd => one_arg rfl fun a => rfl) (by decide) (by intro x hx; rw [List.mem_singleton.mp hx]; exact .inl rfl)

theorem mem_allLeads : ∀ (n : Nat) (l : List Nat), l.length ≤ n → (∀ c ∈ l, c = 32 ∨ c = 9) → l ∈ allLeads n
  | 0, l, h, _ => by
    have : l = [] := List.length_eq_zero_iff.mp (by omega)
    subst this; simp [allLeads]
  | n + 1, [], _, _ => by simp [allLeads]
  | n + 1, c :: r, h, hc => by
    have hr := mem_allLeads n r (by simpa using h) fun x hx => hc x (by simp [hx])
    simp only [allLeads, List.mem_cons, List.mem_append, List.mem_map]
    right
    rcases hc c (by simp) with rfl | rfl
    · exact .inl ⟨r, hr, rfl⟩
    · exact .inr ⟨r, hr, rfl⟩
theorem leadL_mem (x : Int) : leadL x ∈ allLeads 5 := by
  refine mem_allLeads 5 _ ?_ ?_
  · have h6 : x % 6 < 6 := Int.emod_lt_of_pos _ (by decide)
    simp only [leadL, List.length_map, List.length_range]; omega
  · intro c hc
    simp only [leadL, List.mem_map, List.mem_range] at hc
    obtain ⟨k, _, rfl⟩ := hc
    unfold leadC; split
    · exact .inl rfl
    · exact .inr rfl
theorem up6 {l : List Nat} (h : l ∈ allLeads 5) : l ∈ allLeads 6 := by
  have := List.all_eq_true.mp up_ok l h
  simpa using this
theorem leadF6 {l : List Nat} (h : l ∈ allLeads 6) : LeadF l := leadF_of (List.all_eq_true.mp leads_ok6 l h) (List.all_eq_true.mp sort_ok6 l h)
structure GivenF (l : List Nat) : Prop where
  r5 : riseL l ∈ allLeads 5
  f5 : fallL l ∈ allLeads 5
  b6 : l ++ [32] ∈ allLeads 6
  t6 : 9 :: l ∈ allLeads 6
  wr : (wsL (riseL l)).count = (wsL l).count ∧ (wsL (riseL l)).b = (wsL l).b ∧ (wsL (riseL l)).nt = (wsL l).nt
  wf : (wsL (fallL l)).count = (wsL l).count ∧ (wsL (fallL l)).b = (wsL l).b ∧ (wsL (fallL l)).nt = (wsL l).nt
  jr : Txt.join (mkS [9]) ((sigL l).map mkS) = mkS (riseL l)
  jf : Txt.join (mkS [9]) ((fallS l).map mkS) = mkS (fallL l)
  sr : sideD (riseL l) l = if riseL l = l then 0 else -1
  sf : sideD l (fallL l) = if l = fallL l then 0 else -1
theorem givenF {l : List Nat} (h : l ∈ allLeads 5) : GivenF l := by
  have := List.all_eq_true.mp given_ok l h
  unfold givenOk at this
  simp only [Bool.and_eq_true, decide_eq_true_eq, List.contains_iff_mem] at this
  obtain ⟨⟨⟨⟨⟨⟨⟨⟨⟨h1, h2⟩, h3⟩, h4⟩, h5⟩, h6⟩, h7⟩, h8⟩, h9⟩, h10⟩ := this
  exact ⟨h1, h2, h3, h4, h5, h6, h7, h8, h9, h10⟩
theorem len5 {l : List Nat} (h : l ∈ allLeads 5) : l.length ≤ 5 := by
  have : (allLeads 5).all (fun l => decide (l.length ≤ 5)) = true := by decide +kernel
  exact of_decide_eq_true (List.all_eq_true.mp this l h)
theorem read5 {l : List Nat} (h : l ∈ allLeads 5) : ∃ W : Nat, standD l [127, 2, 0] = W ∧ W ≤ 100 ∧ readRun l W (W + 1) 0 [] [] = some l := by
  have := List.all_eq_true.mp read_ok5 l h
  unfold readOk at this
  split at this
  · rename_i W hW
    simp only [Bool.and_eq_true, decide_eq_true_eq] at this
    exact ⟨W, hW, this.1, this.2⟩
  · cases this

variable {prog : Program} {w : World} {K : Frag} {mg mb : Str → Option Value}
theorem ct_read5 (G : GOk mg mb) (H : KOk K) {l : List Nat} (h : l ∈ allLeads 5) : CT prog w K mg mb 12 (.ref 130) [.py (.str (mkS l))] (.py (.str (mkS l))) := by
  obtain ⟨W, h1, h2, h3⟩ := read5 h
  have := len5 h
  exact ct_read G H l (by omega) W h1 h2 l h3

/-! the numbers drawn -/
def drawnL (sc : List Int) : List Int := (pickL (pickL sc (some 1) none ++ [1]) none (some 3)).map fun n => n % 3 + 1
theorem mem_draws (sc : List Int) : drawnL sc ∈ draws := by
  have h3 : ∀ n : Int, n % 3 + 1 = 1 ∨ n % 3 + 1 = 2 ∨ n % 3 + 1 = 3 := fun n => by omega
  have key : ∀ a : List Int, a = a.map id → True := fun _ _ => trivial
  have e : ∃ xs : List Int, 1 ≤ xs.length ∧ xs.length ≤ 3 ∧ drawnL sc = xs.map fun n => n % 3 + 1 := by
    refine ⟨_, ?_, ?_, rfl⟩
    · unfold pickL kms_lo kms_hi; simp; omega
    · unfold pickL kms_lo kms_hi; simp; omega
  obtain ⟨xs, hx1, hx2, e⟩ := e
  rw [e]
  match xs, hx1, hx2 with
  | [a], _, _ => rcases h3 a with h | h | h <;> simp only [List.map_cons, List.map_nil, h] <;> decide
  | [a, b], _, _ => rcases h3 a with h | h | h <;> rcases h3 b with h' | h' | h' <;> simp only [List.map_cons, List.map_nil, h, h'] <;> decide
  | [a, b, c], _, _ => rcases h3 a with h | h | h <;> rcases h3 b with h' | h' | h' <;> rcases h3 c with h'' | h'' | h'' <;> simp only [List.map_cons, List.map_nil, h, h', h''] <;> decide
end Mine

end
section
set_option Elab.async false
set_option maxRecDepth 100000
set_option maxHeartbeats 8000000
set_option autoImplicit false
set_option linter.unusedVariables false
set_option linter.unusedSimpArgs false
namespace Mine
open PySem PySem.W PyProof.Rows PySem.Calls PySem.SeqAt

theorem filter_none (n : Nat) (f : Nat → PyData) : ((List.range n).filter fun _ => false).map f = [] := by
  rw [List.filter_eq_nil_iff.mpr (fun _ _ => by decide)]; rfl
theorem strs_get {ss : List (List Nat)} {i : Nat} {d : PyData} (hd : ((ss.map mkS).map PyData.str)[i]? = some d) : ∃ x, ss[i]? = some x ∧ d = .str (mkS x) := by
  rw [List.getElem?_map, List.getElem?_map] at hd
  cases q : ss[i]? with
  | none => rw [q] at hd; cases hd
  | some x => rw [q] at hd; cases hd; exact ⟨x, rfl, rfl⟩
def joinOkB (l : List Nat) : Bool := decide ((((sigL l).map mkS).map (·.length)).sum + ((sigL l).map mkS).length ≤ 1000) && decide ((((fallS l).map mkS).map (·.length)).sum + ((fallS l).map mkS).length ≤ 1000)
theorem join_ok : (allLeads 5).all joinOkB = true := by decide +kernel
theorem join_ok5 {l : List Nat} (h : l ∈ allLeads 5) : (((sigL l).map mkS).map (·.length)).sum + ((sigL l).map mkS).length ≤ 1000 ∧ (((fallS l).map mkS).map (·.length)).sum + ((fallS l).map mkS).length ≤ 1000 := by
  have := List.all_eq_true.mp join_ok l h
  unfold joinOkB at this
  simpa only [Bool.and_eq_true, decide_eq_true_eq] using this
theorem rows_get {ls : List (List Nat)} {i : Nat} {d : PyData} (hd : (ls.map rowD)[i]? = some d) : ∃ l, l ∈ ls ∧ d = rowD l := by
  rw [List.getElem?_map] at hd
  obtain ⟨l, h1, h2⟩ := Option.map_eq_some_iff.mp hd
  exact ⟨l, List.mem_of_getElem? h1, h2.symm⟩
theorem scales_get {zss : List (List Int)} {i : Nat} {d : PyData} (hd : (zss.map fun zs => PyData.list (zs.map .int))[i]? = some d) : ∃ zs, zs ∈ zss ∧ d = .list (zs.map .int) := by
  rw [List.getElem?_map] at hd
  obtain ⟨l, h1, h2⟩ := Option.map_eq_some_iff.mp hd
  exact ⟨l, List.mem_of_getElem? h1, h2.symm⟩

theorem pick_to {α : Type} (l : List α) (k : Nat) : pickL l none (some (k : Int)) = l.take k := by
  unfold pickL kms_lo kms_hi
  dsimp only
  rw [if_neg (by omega), List.drop_zero, Nat.sub_zero, Int.toNat_natCast]
  by_cases h : k ≤ l.length
  · rw [Nat.min_eq_left h]
  · rw [Nat.min_eq_right (by omega), List.take_of_length_le (Nat.le_refl _), List.take_of_length_le (by omega)]
theorem draws_len {d : List Int} (h : d ∈ draws) : d.length ≤ 3 := by
  have : draws.all (fun d => decide (d.length ≤ 3)) = true := by decide
  exact of_decide_eq_true (List.all_eq_true.mp this d h)

section
variable {T : Tx} {ρ : Rho}
/-- sorted(parts[:-1])[::-1] + parts[-1:] -/
theorem ev_fall (G : GOk T.mg T.mb) {l : List Nat} (h : LeadF l) {x : Str} {np cp p1 p2 p3 p4 p5 p6 p7 p8 p9 p10 q1 q2 q3 q4 pos : Pos} {k1 k2 k3 : Nat} (hx : EV T ρ (.Name x p1) (.py (.list (((runsL l).map mkS).map .str)))) (hx2 : EV T ρ (.Name x p5) (.py (.list (((runsL l).map mkS).map .str)))) (hs : T.env.kindOf "sorted" = some .globalImplicit)
    (hst : starEach [.Subscript (.Name x p1) (.Slice none (some (.UnaryOp .USub (.Constant (.int 1) k1 p2) p3)) none p4) p8] T.env = [(false, eval (.Subscript (.Name x p1) (.Slice none (some (.UnaryOp .USub (.Constant (.int 1) k1 p2) p3)) none p4) p8) T.env)] := by rfl)
    (he : eval (.Call (.Name "sorted" np) [.Subscript (.Name x p1) (.Slice none (some (.UnaryOp .USub (.Constant (.int 1) k1 p2) p3)) none p4) p8] [] cp) T.env = (do callWith cp (← eval (.Name "sorted" np) T.env) [] (backTo cp (starEach [.Subscript (.Name x p1) (.Slice none (some (.UnaryOp .USub (.Constant (.int 1) k1 p2) p3)) none p4) p8] T.env)) (backToKw cp (keywordEach [] T.env))) := by rfl) :
    EV T ρ (.BinOp (.Subscript (.Call (.Name "sorted" np) [.Subscript (.Name x p1) (.Slice none (some (.UnaryOp .USub (.Constant (.int 1) k1 p2) p3)) none p4) p8] [] cp) (.Slice none none (some (.UnaryOp .USub (.Constant (.int 1) k3 q1) q2)) q3) q4) .Add (.Subscript (.Name x p5) (.Slice (some (.UnaryOp .USub (.Constant (.int 1) k2 p6) p7)) none none p9) p10) pos)
      (.py (.list (((fallS l).map mkS).map .str))) := by
  have hl := h.len
  have hr := runs_len l
  have hlen : (((runsL l).map mkS).map PyData.str).length ≤ sizeLine := by rw [List.length_map, List.length_map, sizeLine_eq]; omega
  have hso : (sortL (runsL l).dropLast).length ≤ 21 := by
    have hp := h.srt
    unfold sortOk at hp
    simp only [Bool.and_eq_true] at hp
    rw [(List.isPerm_iff.mp hp.2).length_eq, List.length_dropLast]; omega
  have hf : ((fallS l).map mkS).map PyData.str = (((sortL (runsL l).dropLast).map mkS).map PyData.str).reverse ++ pickL (((runsL l).map mkS).map PyData.str) (some (-1)) none := by
    rw [pickL_map, pickL_map, pick_last _ [] (runsL_ne l), fallS, List.map_append, List.map_append, List.map_reverse, List.map_reverse]
  rw [hf]
  refine ev_addL (ev_revL (ev_bcall (ev_bui G.sorted.1 G.sorted.2 hs) (fun a h => by cases h) (evs_cons (d := .py (.list ((((runsL l).dropLast).map mkS).map .str))) ?_ evs_nil hst) (fun O s vs F r => op_sorted F r (by rw [List.length_map, List.length_dropLast]; omega) (sorted_runs h.srt)) he (by rw [hst]; rfl)) (ev_neg ev_int) ?_) (ev_sliceL (lo := some (-1)) (hi := none) hx2 (ev_neg ev_int) trivial hlen) ?_
  · rw [← pick_init (runsL l), ← pickL_map, ← pickL_map]
    exact ev_sliceL (lo := none) (hi := some (-1)) hx trivial (ev_neg ev_int) hlen
  · rw [List.length_map, List.length_map, sizeLine_eq]; omega
  · have := pickL_len (((runsL l).map mkS).map PyData.str) (some (-1)) none
    rw [List.length_reverse, List.length_map, List.length_map]
    rw [List.length_map, List.length_map] at this
    rw [sizeLine_eq]; omega
end

variable {prog : Program} {w : World} {K : Frag} {mg mb : Str → Option Value}
theorem ct_law (G : GOk mg mb) (H : KOk K) (HL : FnAt K 145 (stmtAt 15) "law") (sc : List Int) (hsc : sc.length ≤ 1000) : CT prog w K mg mb 16 (.ref 145) [.py (.list (sc.map .int))] (.py (.bool true)) := by
  obtain ⟨pm, cd, HO⟩ := okLaw HL
  refine ct_def HO rfl fun X A L s₀ s E O F => ?_
  let T := Tx.mk prog w K mg mb (cxOf X (fdOf (stmtAt 15) "law" pm cd) L 145 s₀) A (callEnvC (fdOf (stmtAt 15) "law" pm cd) L 145) 15
  have stX : STO T "six" := .inr ⟨rfl, _, rfl, .inr ⟨"six", rfl⟩⟩
  have stT : STO T "table" := .inr ⟨rfl, _, rfl, .inr ⟨"table", rfl⟩⟩
  have hscl : (sc.map PyData.int).length ≤ 1000 := by rw [List.length_map]; exact hsc
  obtain ⟨x0, x1, hx⟩ : ∃ x0 x1, pickL (sc ++ [77, 65]) none (some 2) = [x0, x1] := by
    match sc with
    | [] => exact ⟨_, _, rfl⟩
    | [a] => exact ⟨_, _, rfl⟩
    | a :: b :: r =>
      refine ⟨a, b, ?_⟩
      unfold pickL kms_lo kms_hi
      simp
  refine ex_assign (T := T) (d := .py (.list [.int x0, .int x1])) O F ?_ (.inl rfl) fun s1 F1 K1 => ?_
  · have e : [PyData.int x0, PyData.int x1] = pickL (sc.map PyData.int ++ [.int 77, .int 65]) none (some 2) := by
      rw [show sc.map PyData.int ++ [.int 77, .int 65] = (sc ++ [77, 65]).map PyData.int by simp, pickL_map, hx]; rfl
    rw [e]
    exact ev_sliceL (lo := none) (hi := some 2) (ev_addL (ev_name rfl) (ev_list (ds := [.int 77, .int 65]) (evs_cons ev_int (evs_cons ev_int evs_nil))) (by rw [sizeLine_eq]; show _ + 2 ≤ _; omega)) trivial ev_int (by rw [List.length_append, sizeLine_eq]; show _ + 2 ≤ _; omega)
  have m0 := leadL_mem x0
  have m1 := leadL_mem x1
  have ctl := ct_lead (prog := prog) (w := w) G H x0
  have ctl1 := ct_lead (prog := prog) (w := w) G H x1
  generalize hg : leadL x0 = g at *
  generalize ho : leadL x1 = o at *
  have GF := givenF m0
  have LF := leadF6 (up6 m0)
  have lg := len5 m0
  refine ex_assign (T := T) (d := .py (.str (mkS g))) O F1 (ev_call (n := 1) (ev_glob G.lead rfl) (evs_cons (ev_idxL (ev_name rfl) ev_int (by omega) (by omega) rfl) evs_nil) ctl (by show 1 ≤ 15; decide) (H.k 106)) (.inl rfl) fun s2 F2 K2 => ?_
  refine ex_assign (T := T) (d := .py (.list (((runsL g).map mkS).map .str))) O F2 ?_ (.inl rfl) fun s3 F3 K3 => ?_
  · rw [← LF.split]; exact ev_split (y := mkS [9]) (ev_name rfl) (evs_cons ev_str evs_nil) rfl (by rw [mkS_len, sizeLine_eq]; omega)
  refine ex_assign (T := T) (d := .py (.str (mkS (riseL g)))) O F3 ?_ (.inl rfl) fun s4 F4 K4 => ?_
  · rw [← GF.jr]
    exact ev_join (x := mkS [9]) ev_str (evs_cons (ev_sig G LF (ev_name rfl) (ev_name rfl) rfl) evs_nil) (by have := (join_ok5 m0).1; rw [mkS_len, List.length_singleton, Nat.mul_one]; omega)
  refine ex_assign (T := T) (d := .py (.str (mkS (fallL g)))) O F4 ?_ (.inl rfl) fun s5 F5 K5 => ?_
  · rw [← GF.jf]
    exact ev_join (x := mkS [9]) ev_str (evs_cons (ev_fall G LF (ev_name rfl) (ev_name rfl) rfl) evs_nil) (by have := (join_ok5 m0).2; rw [mkS_len, List.length_singleton, Nat.mul_one]; omega)
  let six : List (List Nat) := [fallL g, riseL g, g, o, g ++ [32], 9 :: g]
  have hsix : ∀ l ∈ six, l ∈ allLeads 6 := by
    intro l hl
    simp only [six, List.mem_cons, List.not_mem_nil, or_false] at hl
    rcases hl with rfl | rfl | rfl | rfl | rfl | rfl
    · exact up6 GF.f5
    · exact up6 GF.r5
    · exact up6 m0
    · exact up6 m1
    · exact GF.b6
    · exact GF.t6
  refine ex_assign (T := T) (d := .py (.list ((six.map mkS).map .str))) O F5 ?_ stX fun s6 F6 K6 => ?_
  · refine ev_list (ds := [.str (mkS (fallL g)), .str (mkS (riseL g)), .str (mkS g), .str (mkS o), .str (mkS (g ++ [32])), .str (mkS (9 :: g))]) (evs_cons (ev_name rfl) (evs_cons (ev_name rfl) (evs_cons (ev_name rfl) (evs_cons ?_ (evs_cons ?_ (evs_cons ?_ evs_nil))))))
    · exact ev_call (n := 1) (ev_glob G.lead rfl) (evs_cons (ev_idxL (ev_name rfl) ev_int (by omega) (by omega) rfl) evs_nil) ctl1 (by show 1 ≤ 15; decide) (H.k 106)
    · rw [← mkS_append]; exact ev_addS (ev_name rfl) ev_str (by rw [mkS_len, sizeLine_eq]; show _ + 1 ≤ _; omega)
    · rw [show 9 :: g = [9] ++ g from rfl, ← mkS_append]; exact ev_addS ev_str (ev_name rfl) (by rw [mkS_len, mkS_len, sizeLine_eq]; show 1 + _ ≤ _; omega)
  -- what is read back
  have nilne : ∀ {e1 e2 : Expr} {ρ : Rho} {pos : Pos}, EV T ρ e1 (.py (.list [])) → EV T ρ e2 (.py (.list [])) → TV T ρ (.Compare e1 [.NotEq] [e2] pos) false := fun h1 h2 => tv_ne (a := .list []) (b := .list []) h1 h2 rfl rfl
  have hw : ∀ l ∈ [riseL g, g, o], l ∈ allLeads 5 := by
    intro l hl
    simp only [List.mem_cons, List.not_mem_nil, or_false] at hl
    rcases hl with rfl | rfl | rfl
    · exact GF.r5
    · exact m0
    · exact m1
  refine ex_if (T := T) (b := false) O F6 (nilne ?_ (ev_list (ds := []) evs_nil)) (fun e => by cases e) (fun _ s7 F7 K7 => ?_)
  · rw [← filter_none (((([riseL g, g, o] : List (List Nat)).map mkS).map PyData.str)).length fun i => .str (mkS (([riseL g, g, o] : List (List Nat)).getD i []))]
    refine ev_comp (T := T) (fun _ => false) _ (ρc := []) (cl := []) (items := (([riseL g, g, o] : List (List Nat)).map mkS).map PyData.str) ⟨rfl, rfl, by decide, by decide, rfl, vis_nil, fun _ => rfl⟩ (by rw [sizeLine_eq]; show 3 ≤ _; omega) (it_list (ev_sliceL (lo := some 1) (hi := some 4) (ds := (six.map mkS).map PyData.str) (ev_name rfl) ev_int ev_int (by rw [sizeLine_eq]; show 6 ≤ _; omega))) (fun C D s₂ i d hd => ?_) (fun C D s₂ i d hd h => by cases h)
    obtain ⟨x, hx', rfl⟩ := strs_get hd
    have e1 : (!(mkS x == mkS x)) = false := by simp
    show TV _ _ _ false
    rw [← e1]
    exact tv_neS (ev_call (n := 12) (ev_glob G.read rfl) (evs_cons (ev_name rfl) evs_nil) (ct_read5 G H (hw x (List.mem_of_getElem? hx'))) (by show 12 ≤ 15; decide) (H.k 130)) (ev_name rfl)
  refine ex_nil (T := T) ?_
  refine ex_assign (T := T) (d := .py (.list (six.map rowD))) O F7 ?_ stT fun s8 F8 K8 => ?_
  · have e : six.map rowD = ((List.range ((six.map mkS).map PyData.str).length).filter fun _ => true).map fun i => rowD (six.getD i []) := rfl
    rw [e]
    refine ev_comp (T := T) (fun _ => true) _ (ρc := []) (cl := []) (items := (six.map mkS).map PyData.str) ⟨rfl, rfl, by decide, by decide, rfl, vis_nil, fun _ => rfl⟩ (by rw [sizeLine_eq]; show 6 ≤ _; omega) (it_list (ev_name rfl)) (fun C D s₂ i d hd => rfl) (fun C D s₂ i d hd _ => ?_)
    obtain ⟨x, hx', rfl⟩ := strs_get hd
    have hx2 : six.getD i [] = x := by rw [List.getD, hx']; rfl
    rw [hx2]
    exact ev_call (n := 1) (ev_glob G.row rfl) (evs_cons (ev_name rfl) evs_nil) (ct_row G H x) (by show 1 ≤ 15; decide) (H.k 116)
  refine ex_if (T := T) (b := false) O F8 (nilne ?_ (ev_list (ds := []) evs_nil)) (fun e => by cases e) (fun _ s9 F9 K9 => ?_)
  · rw [← filter_none (six.map rowD).length fun _ => .none]
    refine ev_comp (T := T) (fun _ => false) _ (ρc := [("table", .py (.list (six.map rowD)))]) (cl := [("table", L + 2)]) (items := six.map rowD) ⟨rfl, rfl, by decide, by decide, rfl, vis_cons rfl rfl rfl rfl vis_nil, fun _ => rfl⟩ (by rw [sizeLine_eq]; show 6 ≤ _; omega) (it_list (ev_name rfl)) (fun C D s₂ i d hd => ?_) (fun C D s₂ i d hd h => by cases h)
    obtain ⟨x, hx', rfl⟩ := rows_get hd
    have LX := leadF6 (hsix x hx')
    show TV _ _ _ (!true || !true)
    refine tv_or (tv_not (tv_plain (ev_call (n := 4) (ev_glob G.pair rfl) (evs_cons (ev_idxL (ev_name rfl) ev_int (by omega) (by omega) rfl) (evs_cons (ev_name rfl) evs_nil)) (ct_pair G H g x LF LX) (by show 4 ≤ 15; decide) (H.k 135)) rfl))
      fun _ => tv_not (tv_plain (ev_call (n := 4) (ev_glob G.pair rfl) (evs_cons (ev_name rfl) (evs_cons (ev_idxL (ev_name rfl) ev_int (by omega) (by omega) rfl) evs_nil)) (ct_pair G H x g LX LF) (by show 4 ≤ 15; decide) (H.k 135)) rfl)
  refine ex_nil (T := T) ?_
  refine ex_assign (T := T) (d := .py (.list (([sideD (riseL g) g, sideD g (fallL g)] : List Int).map .int))) O F9 ?_ (.inl rfl) fun s10 F10 K10 => ?_
  · exact ev_list (ds := [.int (sideD (riseL g) g), .int (sideD g (fallL g))]) (evs_cons (ev_call (n := 1) (ev_glob G.strcoll rfl) (evs_cons (ev_name rfl) (evs_cons (ev_name rfl) evs_nil)) (ct_side H _ _) (by show 1 ≤ 15; decide) (H.k 94)) (evs_cons (ev_call (n := 1) (ev_glob G.strcoll rfl) (evs_cons (ev_name rfl) (evs_cons (ev_name rfl) evs_nil)) (ct_side H _ _) (by show 1 ≤ 15; decide) (H.k 94)) evs_nil))
  refine ex_if (T := T) (b := false) O F10 ?_ (fun e => by cases e) (fun _ s11 F11 K11 => ?_)
  · have e2 : (!PyData.eqv (.list (([sideD (riseL g) g, sideD g (fallL g)] : List Int).map .int)) (.list (([if riseL g = g then 0 else -1, if g = fallL g then 0 else -1] : List Int).map .int))) = false := by
      rw [← GF.sr, ← GF.sf]
      show (!PyData.eqvAll _ _) = false
      rw [eqv_ints]; simp
    rw [← e2]
    have pick : ∀ {ρ : Rho} {a b : Str} {l1 l2 : List Nat} {n1 n2 n3 n4 n5 n6 n7 : Pos} {k1 k2 : Nat}, EV T ρ (.Name a n1) (.py (.str (mkS l1))) → EV T ρ (.Name b n2) (.py (.str (mkS l2))) → EV T ρ (.IfExp (.Compare (.Name a n1) [.Eq] [.Name b n2] n3) (.Constant (.int 0) k1 n4) (.UnaryOp .USub (.Constant (.int 1) k2 n5) n6) n7) (.py (.int (if l1 = l2 then 0 else -1))) := by
      intro ρ a b l1 l2 n1 n2 n3 n4 n5 n6 n7 k1 k2 h1 h2
      refine ev_if (tv_eqS h1 h2) (fun e => ?_) (fun e => ?_)
      · have : l1 = l2 := mkS_inj (by simpa using e)
        rw [if_pos this]; exact ev_int
      · have : ¬ l1 = l2 := fun z => by rw [z] at e; simp at e
        rw [if_neg this]; exact ev_neg ev_int
    exact tv_ne (ev_name rfl) (ev_list (ds := [.int (if riseL g = g then 0 else -1), .int (if g = fallL g then 0 else -1)]) (evs_cons (pick (ev_name rfl) (ev_name rfl)) (evs_cons (pick (ev_name rfl) (ev_name rfl)) evs_nil))) (shaped_ints [_, _]) (shaped_ints [_, _])
  refine ex_nil (T := T) ?_
  let ys := pickL (pickL sc (some 1) none ++ [1]) none (some 3)
  have hitems : pickL (pickL (sc.map PyData.int) (some 1) none ++ [.int 1]) none (some 3) = ys.map PyData.int := by
    rw [pickL_map, show (pickL sc (some 1) none).map PyData.int ++ [.int 1] = (pickL sc (some 1) none ++ [1]).map PyData.int by simp, pickL_map]
  have hyl : ys.length ≤ 3 := by
    show (pickL _ none (some ((3 : Nat) : Int))).length ≤ 3
    rw [pick_to, List.length_take]; omega
  have hdr : drawnL sc ∈ draws := mem_draws sc
  have hdl := draws_len hdr
  have hp1 := pickL_len (sc.map PyData.int) (some 1) none
  refine ex_assign_comp (T := T) (fun _ => true) (fun i => .int (ys.getD i 0 % 3 + 1)) (ρc := []) (cl := []) (items := ys.map PyData.int) rfl ⟨rfl, rfl, by decide, by decide, rfl, vis_nil, fun _ => rfl⟩ (by rw [List.length_map, sizeLine_eq]; omega)
    (by
      rw [← hitems]
      exact it_list (ev_sliceL (lo := none) (hi := some 3) (ev_addL (ev_sliceL (lo := some 1) (hi := none) (ev_name rfl) ev_int trivial (by rw [sizeLine_eq]; omega)) (ev_list (ds := [.int 1]) (evs_cons ev_int evs_nil)) (by rw [sizeLine_eq]; show _ + 1 ≤ _; omega)) trivial ev_int (by rw [List.length_append, sizeLine_eq]; show _ + 1 ≤ _; omega)))
    (fun C D s₂ i d hd => rfl) (fun C D s₂ i d hd _ => ?_) O F11 (.inl rfl) fun s12 F12 K12 => ?_
  · rw [List.getElem?_map] at hd
    obtain ⟨n, h1, rfl⟩ := Option.map_eq_some_iff.mp hd
    have hn : ys.getD i 0 = n := by simp [List.getD, h1]
    rw [hn]
    exact ev_add (ev_mod (ev_name rfl) ev_int (by decide)) ev_int
  have ed : ((List.range (ys.map PyData.int).length).filter fun _ => true).map (fun i => PyData.int (ys.getD i 0 % 3 + 1)) = (drawnL sc).map PyData.int := by
    rw [comp_all _ (fun i => ys.getD i 0 % 3 + 1) PyData.int, List.length_map]
    congr 1
    apply List.ext_getElem
    · simp [drawnL, ys]
    · intro i h1 h2
      simp only [List.length_map, List.length_range] at h1
      simp only [List.getElem_map, List.getElem_range, drawnL]
      simp [List.getD, h1, ys]
  rw [ed] at F12
  generalize drawnL sc = dr at *
  have hrul : ∀ zs ∈ scalesL dr, rulerOk zs = true := fun zs hz => List.all_eq_true.mp rulers_ok zs (List.mem_flatMap.mpr ⟨dr, hdr, hz⟩)
  refine ex_assign (T := T) (d := .py (.list ((scalesL dr).map fun zs => .list (zs.map .int)))) O F12 ?_ (.inl rfl) fun s13 F13 K13 => ?_
  · have hdz : (dr.map PyData.int).length ≤ 3 := by rw [List.length_map]; exact hdl
    have e : ((scalesL dr).map fun zs => PyData.list (zs.map .int)) = [.list (dr.map .int ++ [.int 0, .int 5, .int 127]), .list (dr.map .int ++ [.int 127, .int 1, .int 0]), .list (pickL (dr.map .int) none (some 1) ++ [.int 0])] := by
      rw [pickL_map, show (some (1 : Int)) = some ((1 : Nat) : Int) from rfl, pick_to]
      simp [scalesL]
    rw [e]
    have hpd := pickL_len (dr.map PyData.int) none (some 1)
    refine ev_list (T := T) (ds := [_, _, _]) ?_
    refine evs_cons ?_ (evs_cons ?_ (evs_cons ?_ evs_nil))
    · exact ev_addL (ev_name rfl) (ev_list (ds := [.int 0, .int 5, .int 127]) (evs_cons ev_int (evs_cons ev_int (evs_cons ev_int evs_nil)))) (by rw [sizeLine_eq]; show _ + 3 ≤ _; omega)
    · exact ev_addL (ev_name rfl) (ev_list (ds := [.int 127, .int 1, .int 0]) (evs_cons ev_int (evs_cons ev_int (evs_cons ev_int evs_nil)))) (by rw [sizeLine_eq]; show _ + 3 ≤ _; omega)
    · refine ev_addL ?_ (ev_list (ds := [.int 0]) (evs_cons ev_int evs_nil)) (by rw [sizeLine_eq]; show _ + 1 ≤ _; omega)
      exact ev_sliceL (lo := none) (hi := some 1) (ev_name rfl) trivial ev_int (by rw [sizeLine_eq]; omega)
  refine ex_return (T := T) (d := .py (.bool true)) O F13 ?_ fun v s' F' K' R' => ⟨v, rfl, F'.toSt, R'⟩
  refine ev_eq (a := .list []) (b := .list []) ?_ (ev_list (ds := []) evs_nil) rfl rfl
  rw [← filter_none ((scalesL dr).map fun zs => PyData.list (zs.map .int)).length fun _ => .none]
  refine ev_comp (T := T) (fun _ => false) _ (ρc := [("six", .py (.list ((six.map mkS).map .str)))]) (cl := [("six", L + 1)]) (items := (scalesL dr).map fun zs => PyData.list (zs.map .int)) ⟨rfl, rfl, by decide, by decide, rfl, vis_cons rfl rfl rfl rfl vis_nil, fun _ => rfl⟩ (by rw [sizeLine_eq]; show 3 ≤ _; omega) (it_list (ev_name rfl)) (fun C D s₂ i d hd => ?_) (fun C D s₂ i d hd h => by cases h)
  obtain ⟨zs, hzs, rfl⟩ := scales_get hd
  show TV _ _ _ (!true)
  have hlead : ∀ l ∈ [fallL g, riseL g, g], l ∈ allLeads 5 := by
    intro l hl
    simp only [List.mem_cons, List.not_mem_nil, or_false] at hl
    rcases hl with rfl | rfl | rfl
    · exact GF.f5
    · exact GF.r5
    · exact m0
  have hind : ∀ l ∈ [fallL g, riseL g, g], indL l (g0 zs).toNat = indL g (g0 zs).toNat := by
    intro l hl
    simp only [List.mem_cons, List.not_mem_nil, or_false] at hl
    rcases hl with rfl | rfl | rfl
    · unfold indL; rw [GF.wf.1, GF.wf.2.1, GF.wf.2.2]
    · unfold indL; rw [GF.wr.1, GF.wr.2.1, GF.wr.2.2]
    · rfl
  exact tv_not (tv_plain (ev_call (n := 14) (ev_glob G.blind rfl) (evs_cons (ev_name rfl) (evs_cons (ev_sliceL (lo := none) (hi := some 3) (ds := (six.map mkS).map PyData.str) (ev_name rfl) trivial ev_int (by rw [sizeLine_eq]; show 6 ≤ _; omega)) evs_nil))
    (ct_blind G H zs (hrul zs hzs) [fallL g, riseL g, g] hlead rfl fun l hl => (hind l hl).trans (hind (fallL g) (by simp)).symm) (by show 14 ≤ 15; decide) (H.k 140)) rfl)
end Mine

end
section
open PySem PySem.W PyProof.Rows
set_option Elab.async false
set_option maxRecDepth 100000
set_option maxHeartbeats 0
namespace Mine
theorem kLook (P : Params) {f : Addr} {st : Stmt} {ql : Str} (h : ∃ pm cd o, (Mine.hd.heap_39 P).lookup f = some o ∧ o.data = .func (fdOf st ql pm cd) ∧ codeIn (Mine.hd.heap_39 P) cd ql = true) : FnAt (Mine.hd.heap_39 P) f st ql := ⟨h⟩
theorem kOk (P : Params) : KOk (Mine.hd.heap_39 P) := by
  refine { cls := clsOk P, init := ?_, long := ?_, indent := ?_, equal := ?_, wit := ?_, strcoll := ?_, grp := ?_, lead := ?_, gaps := ?_, row := ?_, stand := ?_, read := ?_, pair := ?_, blind := ?_, keeps := ?keeps }
  case keeps =>
    suffices h : PySem.Challenge.rw_pu0031_01 = PySem.Challenge.rw_pu0031_01 → ∀ a ∈ ([45, 52, 59, 66, 83, 94, 101, 106, 111, 116, 123, 130, 135, 140] : List Addr), keepIn (Mine.hd.heap_39 P) (.ref a) = true from h rfl
    k_fill
    intro _ a ha
    simp only [List.mem_cons, List.not_mem_nil, or_false] at ha
    rcases ha with rfl | rfl | rfl | rfl | rfl | rfl | rfl | rfl | rfl | rfl | rfl | rfl | rfl | rfl <;> k_is
  all_goals exact ⟨_, _, _, by with_unfolding_all rfl, by with_unfolding_all rfl, by with_unfolding_all rfl⟩
theorem lawAt (P : Params) : FnAt (Mine.hd.heap_39 P) 145 (stmtAt 15) "law" := ⟨_, _, _, by with_unfolding_all rfl, by with_unfolding_all rfl, by with_unfolding_all rfl⟩
theorem gOk {P : Params} {h : Heap} {mg mb : Str → Option Value} (X : (Mine.hd.heap_39 P).In h) (G : h.Ns mainGlobals mg) (B : ∀ x : Str, x ≠ "__name__" → mb x = bootBuiltins x) : GOk mg mb where
  ws := mg_of X G (by with_unfolding_all rfl)
  strcoll := mg_of X G (by with_unfolding_all rfl)
  grp := mg_of X G (by with_unfolding_all rfl)
  lead := mg_of X G (by with_unfolding_all rfl)
  gaps := mg_of X G (by with_unfolding_all rfl)
  row := mg_of X G (by with_unfolding_all rfl)
  stand := mg_of X G (by with_unfolding_all rfl)
  read := mg_of X G (by with_unfolding_all rfl)
  pair := mg_of X G (by with_unfolding_all rfl)
  blind := mg_of X G (by with_unfolding_all rfl)
  charmax := ⟨_, mg_of X G (by with_unfolding_all rfl)⟩
  len := ⟨mg_none_of X G (by with_unfolding_all rfl), (B _ (by decide)).trans (by rfl)⟩
  tuple := ⟨mg_none_of X G (by with_unfolding_all rfl), (B _ (by decide)).trans (by rfl)⟩
  range := ⟨mg_none_of X G (by with_unfolding_all rfl), (B _ (by decide)).trans (by rfl)⟩
  max := ⟨mg_none_of X G (by with_unfolding_all rfl), (B _ (by decide)).trans (by rfl)⟩
  min := ⟨mg_none_of X G (by with_unfolding_all rfl), (B _ (by decide)).trans (by rfl)⟩
  sum := ⟨mg_none_of X G (by with_unfolding_all rfl), (B _ (by decide)).trans (by rfl)⟩
  sorted := ⟨mg_none_of X G (by with_unfolding_all rfl), (B _ (by decide)).trans (by rfl)⟩
  isi := ⟨mg_none_of X G (by with_unfolding_all rfl), (B _ (by decide)).trans (by rfl)⟩
  bool := ⟨mg_none_of X G (by with_unfolding_all rfl), (B _ (by decide)).trans (by rfl)⟩
end Mine

end
open PySem PySem.W PyProof.Rows
set_option Elab.async false
set_option maxRecDepth 100000
set_option maxHeartbeats 0
namespace Mine
theorem rd_of_ints {X : Vol} {h : Heap} : ∀ {vs : List Value} {ns : List Int}, IntsAre vs ns → RdAll X h vs (ns.map .int)
  | _, _, .nil => RdAll.nil
  | _, _, .cons n t r => RdAll.cons (.int n t) (rd_of_ints r)
end Mine
theorem PySem.Challenge.cw_pu0031_01_holds : PySem.Challenge.rw_pu0031_01.Holds := by
  refine Mine.hd ?_
  intro w s₀ s₁ mg mb G Y fa o pm cd doc dV kV ho hd' hcd hD hmg hg args vals as hpre hlay hrd hwl hlo
  have KX := kIn_of Y
  refine Ground.open G ?_
  intro T B D TE TW
  have e : mg "law" = some (.ref 145) := mg_of KX T.g (by with_unfolding_all rfl)
  have hfa : some (Value.ref fa) = some (.ref 145) := hmg.symm.trans e
  clear hmg
  cases hfa
  clear hd' ho hcd hD B D TE TW
  wrow_args hpre hlay hrd hwl hlo
  rename_i ns _ _ _ _ _ _ _ a vs _ hL _ _ _ hI _ hc _
  refine Mine.ct_law (Mine.gOk KX T.g T.builtins) (Mine.kOk _) (Mine.lawAt _) ns (by omega) (fun _ => False) callerA s₁ [.ref a] _ _ ⟨KX, T.g, T.b, T.nolimit⟩ ⟨rfl, by decide, by decide⟩ (.of_eq hg) (fun _ h => h.elim) ⟨.mkList id hL (Mine.rd_of_ints hI), trivial⟩ fun v s' gr r => ?_
  obtain rfl := Mine.Rd.bool_inv r
  refine ⟨.inl ⟨.bool true, .bool true, [], rfl, fun cls => rfl, .bool true, ?_, fun _ => ⟨.nil, fun _ h => nomatch h⟩⟩, .of_keep gr.heap, gr.os, gr.bare⟩
  exact postW_of (X := true) (by wrow_shape) (by wtm_val) rfl

