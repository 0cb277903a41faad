import PyProof.Rows.All
import Wide.All
import OpenK.AllK
import Wide.FinOn
import PySem.Challenge.RW_qu0060_01
section
set_option Elab.async false
noncomputable section
open PySem PySem.W PySem.Calls PyProof.Rows
set_option maxRecDepth 100000
namespace Mine
/-- plain data -/
inductive D where
  | none
  | bool (b : Bool)
  | int (i : Int)
  | str (s : Str)
  | tup (l : List D)
  | lst (l : List D)
  | raw (v : Value)
  | dct (prog : Program) (w : World) (ks : List Str) (ds : List D)
  | nod
noncomputable def Sub (h h' : Heap) : Prop := ∀ b o, h.get? b = some o → h'.get? b = some o
theorem Sub.refl (h : Heap) : Sub h h := fun _ _ e => e
theorem Sub.trans {a b c : Heap} (x : Sub a b) (y : Sub b c) : Sub a c := fun b o e => y b o (x b o e)
noncomputable def SubB (mu : List Addr) (h h' : Heap) : Prop := ∀ b o, b ∉ mu → h.get? b = some o → h'.get? b = some o
theorem SubB.refl (mu : List Addr) (h : Heap) : SubB mu h h := fun _ _ _ e => e
theorem SubB.trans {mu : List Addr} {a b c : Heap} (x : SubB mu a b) (y : SubB mu b c) : SubB mu a c := fun b o n e => y b o n (x b o n e)
theorem SubB.mono {mu mu' : List Addr} {a b : Heap} (x : SubB mu a b) (hs : ∀ b ∈ mu, b ∈ mu') : SubB mu' a b := fun b o n e => x b o (fun q => n (hs b q)) e
theorem Sub.b {mu : List Addr} {a b : Heap} (x : Sub a b) : SubB mu a b := fun b o _ e => x b o e
theorem SubB.sub {a b : Heap} (x : SubB [] a b) : Sub a b := fun b o e => x b o (by simp) e
/-- the heap with mu hidden -/
noncomputable abbrev Hid (mu : List Addr) (h : Heap) : Heap := hideAll h mu
theorem hid_get {mu : List Addr} {h : Heap} {b : Addr} {o : Obj} (e : (Hid mu h).get? b = some o) : b ∉ mu ∧ h.get? b = some o := by
  refine ⟨fun hm => ?_, of_hideAll mu e⟩
  have := hideAll_none mu (h := h) hm
  rw [e] at this; cases this
theorem hid_of {mu : List Addr} {h : Heap} {b : Addr} {o : Obj} (n : b ∉ mu) (e : h.get? b = some o) : (Hid mu h).get? b = some o := hideAll_get mu e n
theorem hid_sub {mu : List Addr} {h : Heap} : Sub (Hid mu h) h := fun _ _ e => (hid_get e).2
theorem SubB.hid {mu tb : List Addr} {h h' : Heap} (x : SubB tb h h') (hs : ∀ b ∈ tb, b ∈ mu) : Sub (Hid mu h) (Hid mu h') := fun b o e =>
  let ⟨n, e'⟩ := hid_get e
  hid_of n (x b o (fun q => n (hs b q)) e')
theorem hid_mono {mu mu' : List Addr} {h : Heap} (hs : ∀ b ∈ mu', (h.get? b).isSome = true → b ∈ mu) : Sub (Hid mu h) (Hid mu' h) := fun b o e =>
  let ⟨n, e'⟩ := hid_get e
  hid_of (fun q => n (hs b q (by rw [e']; rfl))) e'
mutual
inductive Rp (h : Heap) : Value → D → Prop
  | none : Rp h .none .none
  | bool (b : Bool) : Rp h (.bool b) (.bool b)
  | int (i : Int) (t : Tok) : Rp h (.int i t) (.int i)
  | str (x : Str) (t : Tok) : Rp h (.str x t) (.str x)
  | tup {a : Addr} {vs : List Value} {ds : List D} : (∃ n, h.get? a = some { cls := .type "tuple", data := .seq vs.toArray n }) → Rps h vs ds → Rp h (.ref a) (.tup ds)
  | lst {a : Addr} {vs : List Value} {ds : List D} : h.PlainList a vs.toArray → Rps h vs ds → Rp h (.ref a) (.lst ds)
  | raw (v : Value) : Rp h v (.raw v)
  | dct {prog : Program} {w : World} {a : Addr} {ks : List Str} {vs : List Value} {ds : List D} : h.DictOf (PySem.strKind prog w) a (ks.zip vs) → ks.length = vs.length → Rps h vs ds → Rp h (.ref a) (.dct prog w ks ds)
  | nod {a : Addr} : (a == sysModules) = false → h.get? a = some { cls := .type "dict", data := .dict #[] } → Rp h (.ref a) .nod
inductive Rps (h : Heap) : List Value → List D → Prop
  | nil : Rps h [] []
  | cons {v : Value} {d : D} {vs : List Value} {ds : List D} : Rp h v d → Rps h vs ds → Rps h (v :: vs) (d :: ds)
end
mutual
theorem Rp.mono {h h' : Heap} (k : Sub h h') : ∀ {v : Value} {d : D}, Rp h v d → Rp h' v d
  | _, _, .none => .none
  | _, _, .bool b => .bool b
  | _, _, .int i t => .int i t
  | _, _, .str x t => .str x t
  | _, _, .tup ⟨n, e⟩ r => .tup ⟨n, k _ _ e⟩ (Rps.mono k r)
  | _, _, .lst ⟨n, e⟩ r => .lst ⟨n, k _ _ e⟩ (Rps.mono k r)
  | _, _, .raw v => .raw v
  | _, _, .nod n e => .nod n (k _ _ e)
  | _, _, .dct ⟨o, es, ep, ho, q⟩ hl r => .dct ⟨o, es, ep, k _ _ ho, q⟩ hl (Rps.mono k r)
theorem Rps.mono {h h' : Heap} (k : Sub h h') : ∀ {vs : List Value} {ds : List D}, Rps h vs ds → Rps h' vs ds
  | _, _, .nil => .nil
  | _, _, .cons a b => .cons (Rp.mono k a) (Rps.mono k b)
end
theorem rp_int {h : Heap} {v : Value} {i : Int} (r : Rp h v (.int i)) : ∃ t, v = .int i t := by cases r; exact ⟨_, rfl⟩
theorem rp_str {h : Heap} {v : Value} {i : Str} (r : Rp h v (.str i)) : ∃ t, v = .str i t := by cases r; exact ⟨_, rfl⟩
theorem rp_raw {h : Heap} {v u : Value} (r : Rp h v (.raw u)) : v = u := by cases r; rfl
theorem rp_lst {h : Heap} {v : Value} {ds : List D} (r : Rp h v (.lst ds)) : ∃ a vs, v = .ref a ∧ h.PlainList a vs.toArray ∧ Rps h vs ds := by cases r with | lst p q => exact ⟨_, _, rfl, p, q⟩
theorem rp_tup {h : Heap} {v : Value} {ds : List D} (r : Rp h v (.tup ds)) : ∃ a vs, v = .ref a ∧ (∃ n, h.get? a = some { cls := .type "tuple", data := .seq vs.toArray n }) ∧ Rps h vs ds := by cases r with | tup p q => exact ⟨_, _, rfl, p, q⟩
theorem rps_cons {h : Heap} {vs : List Value} {d : D} {ds : List D} (r : Rps h vs (d :: ds)) : ∃ v us, vs = v :: us ∧ Rp h v d ∧ Rps h us ds := by cases r with | cons a b => exact ⟨_, _, rfl, a, b⟩
theorem rps_nil {h : Heap} {vs : List Value} (r : Rps h vs []) : vs = [] := by cases r; rfl
theorem Rps.length {h : Heap} : ∀ {vs : List Value} {ds : List D}, Rps h vs ds → vs.length = ds.length
  | _, _, .nil => rfl
  | _, _, .cons _ b => by simp [Rps.length b]
theorem Rps.get {h : Heap} : ∀ {vs : List Value} {ds : List D}, Rps h vs ds → ∀ {i : Nat} {v : Value}, vs[i]? = some v → ∃ d, ds[i]? = some d ∧ Rp h v d
  | _, _, .nil, i, v, e => by simp at e
  | _, _, .cons a b, 0, v, e => by simp at e; subst e; exact ⟨_, rfl, a⟩
  | _, _, .cons a b, i + 1, v, e => by simpa using Rps.get b (by simpa using e)
theorem Rps.getD {h : Heap} : ∀ {vs : List Value} {ds : List D}, Rps h vs ds → ∀ {i : Nat} {d : D}, ds[i]? = some d → ∃ v, vs[i]? = some v ∧ Rp h v d
  | _, _, .nil, i, v, e => by simp at e
  | _, _, .cons a b, 0, v, e => by simp at e; subst e; exact ⟨_, rfl, a⟩
  | _, _, .cons a b, i + 1, v, e => by simpa using Rps.getD b (by simpa using e)
theorem Rps.append {h : Heap} : ∀ {vs : List Value} {ds : List D} {vs' : List Value} {ds' : List D}, Rps h vs ds → Rps h vs' ds' → Rps h (vs ++ vs') (ds ++ ds')
  | _, _, _, _, .nil, r => r
  | _, _, _, _, .cons a b, r => .cons a (Rps.append b r)
theorem Rps.take {h : Heap} : ∀ {vs : List Value} {ds : List D}, Rps h vs ds → ∀ n, Rps h (vs.take n) (ds.take n)
  | _, _, .nil, n => by simpa using Rps.nil
  | _, _, .cons _ _, 0 => .nil
  | _, _, .cons a b, n + 1 => .cons a (Rps.take b n)
theorem Rps.drop {h : Heap} : ∀ {vs : List Value} {ds : List D}, Rps h vs ds → ∀ n, Rps h (vs.drop n) (ds.drop n)
  | _, _, .nil, n => by simpa using Rps.nil
  | _, _, .cons a b, 0 => .cons a b
  | _, _, .cons _ b, n + 1 => Rps.drop b n
theorem Rps.reverse {h : Heap} {vs : List Value} {ds : List D} (r : Rps h vs ds) : Rps h vs.reverse ds.reverse := by
  induction vs generalizing ds with
  | nil => cases r; exact .nil
  | cons v vs ih =>
    cases r with
    | cons a b => rw [List.reverse_cons, List.reverse_cons]; exact (ih b).append (.cons a .nil)
theorem Rps.replicate {h : Heap} {v : Value} {d : D} (r : Rp h v d) : ∀ n, Rps h (List.replicate n v) (List.replicate n d)
  | 0 => .nil
  | n + 1 => .cons r (Rps.replicate r n)
/-- s' is s with another heap that keeps all but tb -/
noncomputable def KB (tb : List Addr) (s s' : Shared) : Prop := ∃ h' tk, s' = { s with heap := h', toks := tk } ∧ SubB tb s.heap h'
theorem KB.refl {tb : List Addr} {s : Shared} : KB tb s s := ⟨_, _, rfl, SubB.refl _ _⟩
theorem KB.trans {tb : List Addr} {a b c : Shared} (x : KB tb a b) (y : KB tb b c) : KB tb a c := by
  obtain ⟨h, t, rfl, k⟩ := x
  obtain ⟨h', t', rfl, k'⟩ := y
  exact ⟨h', t', rfl, k.trans k'⟩
theorem KB.sub {tb : List Addr} {a b : Shared} (x : KB tb a b) : SubB tb a.heap b.heap := by
  obtain ⟨h, t, rfl, k⟩ := x; exact k
theorem KB.mono {tb tb' : List Addr} {a b : Shared} (x : KB tb a b) (hs : ∀ b ∈ tb, b ∈ tb') : KB tb' a b := by
  obtain ⟨h, t, rfl, k⟩ := x; exact ⟨h, t, rfl, k.mono hs⟩
theorem KB.keeps {a b : Shared} (x : KB [] a b) : Keeps a b := by
  obtain ⟨h, t, rfl, k⟩ := x; exact ⟨h, t, rfl, k.sub⟩
theorem KB.of_keeps {tb : List Addr} {a b : Shared} (x : Keeps a b) : KB tb a b := by
  obtain ⟨h, t, rfl, k⟩ := x; exact ⟨h, t, rfl, fun b o _ e => k b o e⟩
theorem KB.tok {tb : List Addr} {s : Shared} (t : Nat) : KB tb s { s with toks := t } := ⟨_, _, rfl, SubB.refl _ _⟩
theorem KB.push {tb : List Addr} {s : Shared} (o : Obj) : KB tb s { s with heap := s.heap.push o } := ⟨_, _, rfl, fun _ _ _ e => Heap.get?_push_of_some _ e⟩
theorem KB.push' {tb : List Addr} {s : Shared} (o : Obj) (t : Nat) : KB tb s { s with heap := s.heap.push o, toks := t } := ⟨_, _, rfl, fun _ _ _ e => Heap.get?_push_of_some _ e⟩
end Mine
end
end
section
set_option Elab.async false
noncomputable section
open PySem PySem.W PySem.Calls PyProof.Rows
set_option maxRecDepth 100000
namespace Mine
/-- old objects kept -/
noncomputable def Kp (s s' : Shared) : Prop := Keeps s s'
theorem Kp.refl (s : Shared) : Kp s s := ⟨_, _, rfl, fun _ _ e => e⟩
theorem Kp.trans {a b c : Shared} (x : Kp a b) (y : Kp b c) : Kp a c := by
  obtain ⟨h, t, rfl, k⟩ := x
  obtain ⟨h', t', rfl, k'⟩ := y
  exact ⟨h', t', rfl, fun b o e => k' b o (k b o e)⟩
theorem Kp.sub {a b : Shared} (x : Kp a b) : Sub a.heap b.heap := by
  obtain ⟨h, t, rfl, k⟩ := x; exact k
theorem Kp.tok (s : Shared) (t : Nat) : Kp s { s with toks := t } := ⟨_, _, rfl, fun _ _ e => e⟩
theorem Kp.push (s : Shared) (o : Obj) : Kp s { s with heap := s.heap.push o } := ⟨_, _, rfl, fun _ _ e => Heap.get?_push_of_some _ e⟩
theorem Kp.mk {s : Shared} {h' : Heap} {t : Nat} (k : Sub s.heap h') : Kp s { s with heap := h', toks := t } := ⟨_, _, rfl, k⟩
theorem Kp.hid {mu : List Addr} {a b : Shared} (x : Kp a b) : Sub (Hid mu a.heap) (Hid mu b.heap) := SubB.hid (tb := []) (Sub.b x.sub) (by simp)
/-- what stands at a name -/
noncomputable def VarAt (env : Env) (h : Heap) (x : Str) (v : Value) : Prop := match env.kindOf x with
  | some .local => ∃ m, h.Ns env.locals m ∧ m x = some v
  | some .cell => ∃ c, env.cells.lookup x = some c ∧ h.IsCell c (some v)
  | some .free => ∃ c, env.cells.lookup x = some c ∧ h.IsCell c (some v)
  | _ => False
theorem Ns.sub {h h' : Heap} {a : Addr} {m : Str → Option Value} (k : Sub h h') (n : h.Ns a m) : h'.Ns a m := n.keeps k
theorem VarAt.sub {env : Env} {h h' : Heap} {x : Str} {v : Value} (k : Sub h h') (p : VarAt env h x v) : VarAt env h' x v := by
  unfold VarAt at *
  split at p
  · obtain ⟨m, n, e⟩ := p; exact ⟨m, n.keeps k, e⟩
  · obtain ⟨c, e, i⟩ := p; exact ⟨c, e, i.keeps k⟩
  · obtain ⟨c, e, i⟩ := p; exact ⟨c, e, i.keeps k⟩
  · exact p
/-- a frame's addresses are its own -/
structure Wf (B₀ : Heap) (env : Env) (mu : List Addr) : Prop where
  loc : env.locals ∈ mu ∧ B₀.get? env.locals = none
  cel : ∀ n c, env.cells.lookup n = some c → c ∈ mu ∧ B₀.get? c = none ∧ c ≠ env.locals
  inj : ∀ n n' c, env.cells.lookup n = some c → env.cells.lookup n' = some c → n = n'
structure Frm (B₀ : Heap) (env : Env) (mu : List Addr) (ρ : List (Str × D)) (h : Heap) : Prop where
  g : Sub B₀ h
  k : env.scope.kind = .function
  gl : env.globals = mainGlobals
  bl : env.builtins = builtinsNs
  low : ∀ b ∈ mu, ∃ o, h.get? b = some o
  wf : Wf B₀ env mu
  ns : ∃ m, h.Ns env.locals m
  cl : ∀ n c, env.cells.lookup n = some c → ∃ v, h.IsCell c v
  var : ∀ x d, ρ.lookup x = some d → ∃ v, VarAt env h x v ∧ Rp (Hid mu h) v d
theorem Frm.keeps {B₀ : Heap} {env : Env} {mu : List Addr} {ρ : List (Str × D)} {s s' : Shared} (F : Frm B₀ env mu ρ s.heap) (K : Kp s s') : Frm B₀ env mu ρ s'.heap :=
  ⟨F.g.trans K.sub, F.k, F.gl, F.bl, fun b hb => let ⟨o, e⟩ := F.low b hb; ⟨o, K.sub b o e⟩, F.wf, let ⟨m, e⟩ := F.ns; ⟨m, e.keeps K.sub⟩, fun n c e => let ⟨v, i⟩ := F.cl n c e; ⟨v, i.keeps K.sub⟩, fun x d e => let ⟨v, a, b⟩ := F.var x d e; ⟨v, a.sub K.sub, b.mono K.hid⟩⟩
theorem Frm.weak {B₀ : Heap} {env : Env} {mu : List Addr} {ρ ρ' : List (Str × D)} {h : Heap} (F : Frm B₀ env mu ρ h) (hr : ∀ x d, ρ'.lookup x = some d → ρ.lookup x = some d) : Frm B₀ env mu ρ' h :=
  ⟨F.g, F.k, F.gl, F.bl, F.low, F.wf, F.ns, F.cl, fun x d e => F.var x d (hr x d e)⟩
theorem Ns.uniq {h : Heap} {a : Addr} {m m' : Str → Option Value} (x : h.Ns a m) (y : h.Ns a m') : m = m' := by
  obtain ⟨o, es, ep, e1, e2, _, e4⟩ := x
  obtain ⟨o', es', ep', f1, f2, _, f4⟩ := y
  rw [e1] at f1; cases f1
  rw [e2] at f2; cases f2
  funext n; rw [← e4 n, f4 n]
/-- the slot that a name is stored in -/
noncomputable def SlotOf (env : Env) (x : Str) (a : Addr) : Prop := (env.kindOf x = some .local ∧ a = env.locals) ∨ (env.kindOf x = some .cell ∧ env.cells.lookup x = some a)
theorem SlotOf.mem {B₀ : Heap} {env : Env} {mu : List Addr} {x : Str} {a : Addr} (W : Wf B₀ env mu) (S : SlotOf env x a) : a ∈ mu ∧ B₀.get? a = none := by
  rcases S with ⟨_, e⟩ | ⟨_, e⟩
  · subst e; exact W.loc
  · exact ⟨(W.cel _ _ e).1, (W.cel _ _ e).2.1⟩
/-- what the top holds for good -/
structure Base (B₀ : Heap) (mg mb : Str → Option Value) : Prop where
  g : B₀.Ns mainGlobals mg
  b : B₀.Ns builtinsNs mb
  nolimit : B₀.NoLimit
  nodigits : ∃ mc, B₀.Ns cStatics mc ∧ mc "sys.int_max_str_digits" = none
  builtins : ∀ x : Str, x ≠ "__name__" → mb x = bootBuiltins x
section
variable (prog : Program) (w : World) (B₀ : Heap)
/-- evaluation to plain data, old objects kept -/
noncomputable def Ev (A : Around) (env : Env) (mu : List Addr) (ρ : List (Str × D)) (e : Expr) (d : D) : Prop :=
  ∀ (s : Shared) (E : Value → Shared → Prop), Frm B₀ env mu ρ s.heap →
    wpAny (model prog w) A (eval e env) (fun v s' => Rp (Hid mu s'.heap) v d ∧ Kp s s') E s
/-- a test -/
noncomputable def Ts (A : Around) (env : Env) (mu : List Addr) (ρ : List (Str × D)) (e : Expr) (b : Bool) : Prop :=
  ∀ (s : Shared) (E : Value → Shared → Prop), Frm B₀ env mu ρ s.heap →
    wpAny (model prog w) A (isTrue e env (eval e env)) (fun v s' => v = b ∧ Kp s s') E s
end
section
variable {prog : Program} {w : World} {B₀ : Heap} {A : Around} {env : Env} {mu : List Addr} {ρ : List (Str × D)}
theorem Ev.cInt {i : Int} {k : Nat} {pos : Pos} : Ev prog w B₀ A env mu ρ (.Constant (.int i) k pos) (.int i) := fun s _ _ =>
  wpAny_Constant_int ⟨.int _ _, Kp.tok s _⟩
theorem Ev.cStr {x : Str} {k : Nat} {pos : Pos} : Ev prog w B₀ A env mu ρ (.Constant (.str x) k pos) (.str x) := fun s _ _ =>
  Constant_str ⟨.str _ _, Kp.tok s _⟩
theorem Ev.cNone {k : Nat} {pos : Pos} : Ev prog w B₀ A env mu ρ (.Constant .none k pos) .none := fun s _ _ =>
  Constant_none ⟨.none, Kp.refl s⟩
theorem loadVar {x : Str} {v : Value} {s : Shared} {E : Value → Shared → Prop} {Q : Value → Shared → Prop} (hk : env.scope.kind = .function) (p : VarAt env s.heap x v) (h : Q v s)
    (hd : (x == ("__debug__" : Str)) = false) (hn : (x == ("__classdict__" : Str)) = false) {pos : Pos} : wpAny (model prog w) A (eval (.Name x pos) env) Q E s := by
  unfold VarAt at p
  split at p
  · rename_i e; obtain ⟨m, n, em⟩ := p; exact wpAny_Name (wpAny_loadName_local hk e n em h) hd
  · rename_i e; obtain ⟨c, ec, i⟩ := p; exact wpAny_Name (wpAny_loadName_cell hk e ec i h) hd
  · rename_i e; obtain ⟨c, ec, i⟩ := p; exact wpAny_Name (wpAny_loadName_free hk e ec i h hn) hd
  · exact p.elim
theorem Ev.name {x : Str} {d : D} {pos : Pos} (e : ρ.lookup x = some d) (hd : (x == ("__debug__" : Str)) = false := by decide +kernel) (hn : (x == ("__classdict__" : Str)) = false := by decide +kernel) :
    Ev prog w B₀ A env mu ρ (.Name x pos) d := fun s _ F =>
  let ⟨_, p, r⟩ := F.var x d e
  loadVar F.k p ⟨r, Kp.refl s⟩ hd hn
theorem sameBut_get {a b : Addr} {h h' : Heap} {o : Obj} (s : Heap.SameBut a h h') (n : b ≠ a) (e : h.get? b = some o) : h'.get? b = some o := s.extBut b o n e
/-- after a store at x -/
theorem Frm.stored {x : Str} {v : Value} {d : D} {a : Addr} {h h' : Heap} (F : Frm B₀ env mu ρ h) (S : SlotOf env x a) (hs : Heap.SameBut a h h') (r : Rp (Hid mu h) v d)
    (hv : VarAt env h' x v) (hm : ∀ y v', y ≠ x → VarAt env h y v' → VarAt env h' y v') (hns : ∃ m, h'.Ns env.locals m) (hcl : ∃ o, h'.get? a = some o) (hce : ∀ n c, env.cells.lookup n = some c → ∃ v, h'.IsCell c v) :
    Frm B₀ env mu ((x, d) :: ρ) h' := by
  have M := S.mem F.wf
  have sb : SubB [a] h h' := fun b o n e => sameBut_get hs (by simpa using n) e
  have hid : Sub (Hid mu h) (Hid mu h') := sb.hid (by simp [M.1])
  refine ⟨fun b o e => sameBut_get hs (fun q => by rw [q, M.2] at e; cases e) (F.g b o e), F.k, F.gl, F.bl, fun b hb => ?_, F.wf, hns, hce, fun y d' e => ?_⟩
  · by_cases q : b = a
    · exact q ▸ hcl
    · obtain ⟨o, e⟩ := F.low b hb; exact ⟨o, sameBut_get hs q e⟩
  · by_cases q : y = x
    · subst q
      have : d' = d := by simpa [List.lookup_cons] using e.symm
      subst this
      exact ⟨v, hv, r.mono hid⟩
    · have e' : ρ.lookup y = some d' := by rw [List.lookup_cons] at e; rwa [show (y == x) = false by simpa using q] at e
      obtain ⟨v', p, r'⟩ := F.var y d' e'
      exact ⟨v', hm y v' q p, r'.mono hid⟩
theorem VarAt.other {y x : Str} {v' : Value} {a : Addr} {h h' : Heap} (W : Wf B₀ env mu) (S : SlotOf env x a) (hs : Heap.SameBut a h h') (q : y ≠ x) (p : VarAt env h y v')
    (hloc : a = env.locals → ∀ m, h.Ns env.locals m → ∃ m', h'.Ns env.locals m' ∧ ∀ z, z ≠ x → m' z = m z) : VarAt env h' y v' := by
  have cellCase : ∀ c, env.cells.lookup y = some c → h.IsCell c (some v') → h'.IsCell c (some v') := fun c ec i => by
    refine i.sameBut hs fun e => ?_
    rcases S with ⟨_, e'⟩ | ⟨_, e'⟩
    · exact (W.cel y c ec).2.2 (e.trans e')
    · exact q (W.inj y x c ec (e ▸ e'))
  unfold VarAt at *
  split at p
  · obtain ⟨m, n, e⟩ := p
    by_cases qa : a = env.locals
    · obtain ⟨m', n', em⟩ := hloc qa m n
      exact ⟨m', n', by rw [em y q]; exact e⟩
    · exact ⟨m, n.sameBut hs fun e' => qa e'.symm, e⟩
  · obtain ⟨c, ec, i⟩ := p; exact ⟨c, ec, cellCase c ec i⟩
  · obtain ⟨c, ec, i⟩ := p; exact ⟨c, ec, cellCase c ec i⟩
  · exact p
theorem store_name {x : Str} {v : Value} {d : D} {a : Addr} {s : Shared} {E : Value → Shared → Prop} {Q : Unit → Shared → Prop} (F : Frm B₀ env mu ρ s.heap) (S : SlotOf env x a) (r : Rp (Hid mu s.heap) v d)
    (h : ∀ h' tk, Frm B₀ env mu ((x, d) :: ρ) h' → Heap.SameBut a s.heap h' → VarAt env h' x v → Q () { s with heap := h', toks := tk }) : wpAny (model prog w) A (storeName env x v) Q E s := by
  rcases id S with ⟨hk, e⟩ | ⟨hk, e⟩
  · subst e
    obtain ⟨m, n⟩ := F.ns
    refine wpAny_storeName_local hk n (fun h' n' hs => ?_) (by rw [F.k]; rfl)
    have hv : VarAt env h' x v := by unfold VarAt; rw [hk]; exact ⟨_, n', by simp⟩
    obtain ⟨o', _, _, eo, _⟩ := id n'
    exact h h' _ (F.stored S hs r hv (fun y v' q p => VarAt.other F.wf S hs q p fun _ m₁ n₁ => ⟨_, n', fun z hz => by rw [Ns.uniq n₁ n]; simp [hz]⟩) ⟨_, n'⟩ ⟨o', eo⟩
      fun k c ec => let ⟨v₁, i⟩ := F.cl k c ec; ⟨v₁, i.sameBut hs (F.wf.cel k c ec).2.2⟩) hs hv
  · obtain ⟨v₀, i₀⟩ := F.cl x a e
    refine wpAny_storeName_cell F.k hk e i₀ fun h' i' hs => ?_
    have hv : VarAt env h' x v := by unfold VarAt; rw [hk]; exact ⟨a, e, i'⟩
    obtain ⟨m, n⟩ := F.ns
    have hne := (F.wf.cel x a e).2.2
    obtain ⟨o', eo, _⟩ := id i'
    exact h h' _ (F.stored S hs r hv (fun y v' q p => VarAt.other F.wf S hs q p fun e' => absurd e' hne) ⟨m, n.sameBut hs hne.symm⟩ ⟨o', eo⟩
      fun k c ec => by
        by_cases q : c = a
        · subst q; exact ⟨_, i'⟩
        · obtain ⟨v₁, i⟩ := F.cl k c ec; exact ⟨v₁, i.sameBut hs q⟩) hs hv
theorem assign_name {x : Str} {v : Value} {d : D} {a : Addr} {pos : Pos} {s : Shared} {E : Value → Shared → Prop} {Q : Unit → Shared → Prop} (F : Frm B₀ env mu ρ s.heap) (S : SlotOf env x a) (r : Rp (Hid mu s.heap) v d)
    (h : ∀ h' tk, Frm B₀ env mu ((x, d) :: ρ) h' → Heap.SameBut a s.heap h' → VarAt env h' x v → Q () { s with heap := h', toks := tk }) : wpAny (model prog w) A (assign (.Name x pos) env v) Q E s :=
  wpAny_assign_Name (store_name F S r h)
/-- two in turn -/
theorem Ev.two {l r : Expr} {a b : D} (hl : Ev prog w B₀ A env mu ρ l a) (hr : Ev prog w B₀ A env mu ρ r b) {s : Shared} {E : Value → Shared → Prop} (F : Frm B₀ env mu ρ s.heap) {Q : Value → Value → Shared → Prop}
    (h : ∀ va vb s', Rp (Hid mu s'.heap) va a → Rp (Hid mu s'.heap) vb b → Kp s s' → Frm B₀ env mu ρ s'.heap → Q va vb s') :
    wpAny (model prog w) A (eval l env) (fun va s₁ => wpAny (model prog w) A (eval r env) (fun vb s₂ => Q va vb s₂) E s₁) E s :=
  wpAny_mono (hl s E F) (fun va s₁ ⟨ra, k₁⟩ => wpAny_mono (hr s₁ E (F.keeps k₁)) (fun vb s₂ ⟨rb, k₂⟩ => h va vb s₂ (ra.mono k₂.hid) rb (k₁.trans k₂) ((F.keeps k₁).keeps k₂)) fun _ _ x => x) fun _ _ x => x
theorem Ev.bin {l r : Expr} {op : Operator} {pos : Pos} {a b d : D} (hl : Ev prog w B₀ A env mu ρ l a) (hr : Ev prog w B₀ A env mu ρ r b)
    (h : ∀ va vb s E, Rp (Hid mu s.heap) va a → Rp (Hid mu s.heap) vb b → Frm B₀ env mu ρ s.heap → wpAny (model prog w) A (binaryOp op va vb) (fun v s' => Rp (Hid mu s'.heap) v d ∧ Kp s s') E s) :
    Ev prog w B₀ A env mu ρ (.BinOp l op r pos) d := fun s E F =>
  wpAny_BinOp (Ev.two hl hr F fun va vb s' ra rb K F' => wpAny_mono (h va vb s' E ra rb F') (fun _ _ ⟨x, y⟩ => ⟨x, K.trans y⟩) fun _ _ x => x)
theorem Ev.un {x : Expr} {op : UnaryOp} {pos : Pos} {a d : D} (hx : Ev prog w B₀ A env mu ρ x a)
    (h : ∀ va s E, Rp (Hid mu s.heap) va a → wpAny (model prog w) A (unaryOp op va) (fun v s' => Rp (Hid mu s'.heap) v d ∧ Kp s s') E s) :
    Ev prog w B₀ A env mu ρ (.UnaryOp op x pos) d := fun s E F =>
  UnaryOp_ (wpAny_mono (hx s E F) (fun va s' ⟨ra, K⟩ => wpAny_mono (h va s' E ra) (fun _ _ ⟨x, y⟩ => ⟨x, K.trans y⟩) fun _ _ x => x) fun _ _ x => x)
theorem Ev.cmp {l r : Expr} {op : CmpOp} {pos : Pos} {a b d : D} (hl : Ev prog w B₀ A env mu ρ l a) (hr : Ev prog w B₀ A env mu ρ r b)
    (h : ∀ va vb s E, Rp (Hid mu s.heap) va a → Rp (Hid mu s.heap) vb b → wpAny (model prog w) A (compareOp op va vb) (fun v s' => Rp (Hid mu s'.heap) v d ∧ Kp s s') E s)
    (hm : behindInMarks op r = false := by with_unfolding_all rfl) :
    Ev prog w B₀ A env mu ρ (.Compare l [op] [r] pos) d := fun s E F =>
  wpAny_Compare1 (Ev.two hl hr F fun va vb s' ra rb K _ => wpAny_mono (h va vb s' E ra rb) (fun _ _ ⟨x, y⟩ => ⟨x, K.trans y⟩) fun _ _ x => x) hm
theorem Ts.cmp {l r : Expr} {op : CmpOp} {pos : Pos} {a b : D} {c : Bool} (hl : Ev prog w B₀ A env mu ρ l a) (hr : Ev prog w B₀ A env mu ρ r b)
    (h : ∀ va vb s E, Rp (Hid mu s.heap) va a → Rp (Hid mu s.heap) vb b → wpAny (model prog w) A (compareOp op va vb) (fun v s' => v = .bool c ∧ Kp s s') E s)
    (hm : behindInMarks op r = false := by with_unfolding_all rfl) :
    Ts prog w B₀ A env mu ρ (.Compare l [op] [r] pos) c := fun s E F =>
  wpAny_isTrue_Compare1 (Ev.two hl hr F fun va vb s' ra rb K _ => wpAny_mono (h va vb s' E ra rb) (fun v s₂ ⟨e, y⟩ => by
    subst e
    exact wpAny_truthy_bool ⟨rfl, K.trans y⟩) fun _ _ x => x) hm
end
end Mine
end
end
section
set_option Elab.async false
noncomputable section
open PySem PySem.W PySem.Calls PyProof.Rows
set_option maxRecDepth 100000
set_option linter.unusedVariables false
namespace Mine
section
variable {prog : Program} {w : World} {B₀ : Heap} {A : Around} {env : Env} {mu : List Addr} {ρ : List (Str × D)} {pos : Pos} {l r e : Expr} {a b : Int} {x y : Str}
theorem bimLt (r : Expr) : behindInMarks .Lt r = false := by cases r <;> first | rfl | (unfold behindInMarks; rw [show (CmpOp.Lt == CmpOp.In) = false from rfl, show (CmpOp.Lt == CmpOp.NotIn) = false from rfl]; simp)
theorem bimLe (r : Expr) : behindInMarks .LtE r = false := by cases r <;> first | rfl | (unfold behindInMarks; rw [show (CmpOp.LtE == CmpOp.In) = false from rfl, show (CmpOp.LtE == CmpOp.NotIn) = false from rfl]; simp)
theorem bimEq (r : Expr) : behindInMarks .Eq r = false := by cases r <;> first | rfl | (unfold behindInMarks; rw [show (CmpOp.Eq == CmpOp.In) = false from rfl, show (CmpOp.Eq == CmpOp.NotIn) = false from rfl]; simp)
theorem bimNe (r : Expr) : behindInMarks .NotEq r = false := by cases r <;> first | rfl | (unfold behindInMarks; rw [show (CmpOp.NotEq == CmpOp.In) = false from rfl, show (CmpOp.NotEq == CmpOp.NotIn) = false from rfl]; simp)
theorem pInt {s : Shared} {i : Int} : Rp (Hid mu ({ s with toks := s.toks + 1 } : Shared).heap) (.int i s.toks) (.int i) ∧ Kp s { s with toks := s.toks + 1 } := ⟨.int _ _, Kp.tok s _⟩
theorem pStr {s : Shared} {i : Str} {t k : Nat} : Rp (Hid mu ({ s with toks := k } : Shared).heap) (.str i t) (.str i) ∧ Kp s { s with toks := k } := ⟨.str _ _, Kp.tok s _⟩
theorem Ev.add (hl : Ev prog w B₀ A env mu ρ l (.int a)) (hr : Ev prog w B₀ A env mu ρ r (.int b)) : Ev prog w B₀ A env mu ρ (.BinOp l .Add r pos) (.int (a + b)) :=
  Ev.bin hl hr fun _ _ _ _ ra rb _ => by (first | obtain ⟨_, rfl⟩ := rp_int ra | obtain ⟨_, rfl⟩ := rp_str ra | obtain rfl := rp_raw ra | obtain rfl := rps_nil ra | cases ra); (first | obtain ⟨_, rfl⟩ := rp_int rb | obtain ⟨_, rfl⟩ := rp_str rb | obtain rfl := rp_raw rb | obtain rfl := rps_nil rb | cases rb); exact PyProof.Rows.add_int pInt
theorem Ev.sub (hl : Ev prog w B₀ A env mu ρ l (.int a)) (hr : Ev prog w B₀ A env mu ρ r (.int b)) : Ev prog w B₀ A env mu ρ (.BinOp l .Sub r pos) (.int (a - b)) :=
  Ev.bin hl hr fun _ _ _ _ ra rb _ => by (first | obtain ⟨_, rfl⟩ := rp_int ra | obtain ⟨_, rfl⟩ := rp_str ra | obtain rfl := rp_raw ra | obtain rfl := rps_nil ra | cases ra); (first | obtain ⟨_, rfl⟩ := rp_int rb | obtain ⟨_, rfl⟩ := rp_str rb | obtain rfl := rp_raw rb | obtain rfl := rps_nil rb | cases rb); exact PyProof.Rows.sub_int pInt
theorem Ev.mul (hl : Ev prog w B₀ A env mu ρ l (.int a)) (hr : Ev prog w B₀ A env mu ρ r (.int b)) (hm : IntMulOk a b) : Ev prog w B₀ A env mu ρ (.BinOp l .Mult r pos) (.int (a * b)) :=
  Ev.bin hl hr fun _ _ _ _ ra rb _ => by (first | obtain ⟨_, rfl⟩ := rp_int ra | obtain ⟨_, rfl⟩ := rp_str ra | obtain rfl := rp_raw ra | obtain rfl := rps_nil ra | cases ra); (first | obtain ⟨_, rfl⟩ := rp_int rb | obtain ⟨_, rfl⟩ := rp_str rb | obtain rfl := rp_raw rb | obtain rfl := rps_nil rb | cases rb); exact PyProof.Rows.mul_int pInt hm
theorem Ev.mod (hl : Ev prog w B₀ A env mu ρ l (.int a)) (hr : Ev prog w B₀ A env mu ρ r (.int b)) (hb : b ≠ 0) : Ev prog w B₀ A env mu ρ (.BinOp l .Mod r pos) (.int (a.fmod b)) :=
  Ev.bin hl hr fun _ _ _ _ ra rb _ => by (first | obtain ⟨_, rfl⟩ := rp_int ra | obtain ⟨_, rfl⟩ := rp_str ra | obtain rfl := rp_raw ra | obtain rfl := rps_nil ra | cases ra); (first | obtain ⟨_, rfl⟩ := rp_int rb | obtain ⟨_, rfl⟩ := rp_str rb | obtain rfl := rp_raw rb | obtain rfl := rps_nil rb | cases rb); exact PyProof.Rows.mod_int hb pInt
theorem Ev.div (hl : Ev prog w B₀ A env mu ρ l (.int a)) (hr : Ev prog w B₀ A env mu ρ r (.int b)) (hb : b ≠ 0) (hp : Builtin.divisionGoesByPylong a b = false) : Ev prog w B₀ A env mu ρ (.BinOp l .FloorDiv r pos) (.int (a.fdiv b)) :=
  Ev.bin hl hr fun _ _ _ _ ra rb _ => by (first | obtain ⟨_, rfl⟩ := rp_int ra | obtain ⟨_, rfl⟩ := rp_str ra | obtain rfl := rp_raw ra | obtain rfl := rps_nil ra | cases ra); (first | obtain ⟨_, rfl⟩ := rp_int rb | obtain ⟨_, rfl⟩ := rp_str rb | obtain rfl := rp_raw rb | obtain rfl := rps_nil rb | cases rb); exact PyProof.Rows.floordiv_int hb pInt (.inl hp)
theorem Ev.pow (hl : Ev prog w B₀ A env mu ρ l (.int a)) (hr : Ev prog w B₀ A env mu ρ r (.int b)) (hb : 0 < b) (ha : 1 < a) (hs : ¬ Builtin.Int.intTooBig (((Builtin.Int.intBits a : Nat) : Int) * b) = true) :
    Ev prog w B₀ A env mu ρ (.BinOp l .Pow r pos) (.int (a ^ b.toNat)) :=
  Ev.bin hl hr fun _ _ _ _ ra rb _ => by
    (first | obtain ⟨_, rfl⟩ := rp_int ra | obtain ⟨_, rfl⟩ := rp_str ra | obtain rfl := rp_raw ra | obtain rfl := rps_nil ra | cases ra); (first | obtain ⟨_, rfl⟩ := rp_int rb | obtain ⟨_, rfl⟩ := rp_str rb | obtain rfl := rp_raw rb | obtain rfl := rps_nil rb | cases rb)
    exact AutoIntOps.pow_4 (Int.le_of_lt hb) (by simp; omega) (by simp; omega) (by simp; omega) hs pInt
theorem Ev.shl (hl : Ev prog w B₀ A env mu ρ l (.int a)) (hr : Ev prog w B₀ A env mu ρ r (.int b)) (hb : 0 ≤ b) (hs : (Builtin.Int.intBits a : Int) + b ≤ 2 ^ 27) :
    Ev prog w B₀ A env mu ρ (.BinOp l .LShift r pos) (.int (a * 2 ^ b.toNat)) :=
  Ev.bin hl hr fun _ _ _ _ ra rb _ => by (first | obtain ⟨_, rfl⟩ := rp_int ra | obtain ⟨_, rfl⟩ := rp_str ra | obtain rfl := rp_raw ra | obtain rfl := rps_nil ra | cases ra); (first | obtain ⟨_, rfl⟩ := rp_int rb | obtain ⟨_, rfl⟩ := rp_str rb | obtain rfl := rp_raw rb | obtain rfl := rps_nil rb | cases rb); exact PyProof.Rows.lshift_int hb hs pInt
theorem Ev.shr (hl : Ev prog w B₀ A env mu ρ l (.int a)) (hr : Ev prog w B₀ A env mu ρ r (.int b)) (hb : 0 ≤ b) : Ev prog w B₀ A env mu ρ (.BinOp l .RShift r pos) (.int (a.fdiv (2 ^ b.toNat))) :=
  Ev.bin hl hr fun _ _ _ _ ra rb _ => by (first | obtain ⟨_, rfl⟩ := rp_int ra | obtain ⟨_, rfl⟩ := rp_str ra | obtain rfl := rp_raw ra | obtain rfl := rps_nil ra | cases ra); (first | obtain ⟨_, rfl⟩ := rp_int rb | obtain ⟨_, rfl⟩ := rp_str rb | obtain rfl := rp_raw rb | obtain rfl := rps_nil rb | cases rb); exact PyProof.Rows.rshift_int hb pInt
theorem Ev.xor (hl : Ev prog w B₀ A env mu ρ l (.int a)) (hr : Ev prog w B₀ A env mu ρ r (.int b)) : Ev prog w B₀ A env mu ρ (.BinOp l .BitXor r pos) (.int (Builtin.bitXor a b)) :=
  Ev.bin hl hr fun _ _ _ _ ra rb _ => by (first | obtain ⟨_, rfl⟩ := rp_int ra | obtain ⟨_, rfl⟩ := rp_str ra | obtain rfl := rp_raw ra | obtain rfl := rps_nil ra | cases ra); (first | obtain ⟨_, rfl⟩ := rp_int rb | obtain ⟨_, rfl⟩ := rp_str rb | obtain rfl := rp_raw rb | obtain rfl := rps_nil rb | cases rb); exact PyProof.Rows.xor_int pInt
theorem Ev.neg (hl : Ev prog w B₀ A env mu ρ l (.int a)) : Ev prog w B₀ A env mu ρ (.UnaryOp .USub l pos) (.int (-a)) :=
  Ev.un hl fun _ _ _ ra => by (first | obtain ⟨_, rfl⟩ := rp_int ra | obtain ⟨_, rfl⟩ := rp_str ra | obtain rfl := rp_raw ra | obtain rfl := rps_nil ra | cases ra); exact PyProof.Rows.neg_int pInt
theorem Ev.inv (hl : Ev prog w B₀ A env mu ρ l (.int a)) : Ev prog w B₀ A env mu ρ (.UnaryOp .Invert l pos) (.int (Builtin.bitNot a)) :=
  Ev.un hl fun _ _ _ ra => by (first | obtain ⟨_, rfl⟩ := rp_int ra | obtain ⟨_, rfl⟩ := rp_str ra | obtain rfl := rp_raw ra | obtain rfl := rps_nil ra | cases ra); exact PyProof.Rows.invert_int pInt
-- texts
theorem Ev.cat (hl : Ev prog w B₀ A env mu ρ l (.str x)) (hr : Ev prog w B₀ A env mu ρ r (.str y)) (hs : x.length + y.length ≤ sizeLine) : Ev prog w B₀ A env mu ρ (.BinOp l .Add r pos) (.str (x ++ y)) :=
  Ev.bin hl hr fun _ _ _ _ ra rb _ => by (first | obtain ⟨_, rfl⟩ := rp_int ra | obtain ⟨_, rfl⟩ := rp_str ra | obtain rfl := rp_raw ra | obtain rfl := rps_nil ra | cases ra); (first | obtain ⟨_, rfl⟩ := rp_int rb | obtain ⟨_, rfl⟩ := rp_str rb | obtain rfl := rp_raw rb | obtain rfl := rps_nil rb | cases rb); exact SB.add (fun _ _ => pStr) hs
theorem Ev.smul (hl : Ev prog w B₀ A env mu ρ l (.str x)) (hr : Ev prog w B₀ A env mu ρ r (.int b)) (hs : MulOk x b) : Ev prog w B₀ A env mu ρ (.BinOp l .Mult r pos) (.str (Txt.mul x b)) :=
  Ev.bin hl hr fun _ _ _ _ ra rb _ => by (first | obtain ⟨_, rfl⟩ := rp_int ra | obtain ⟨_, rfl⟩ := rp_str ra | obtain rfl := rp_raw ra | obtain rfl := rps_nil ra | cases ra); (first | obtain ⟨_, rfl⟩ := rp_int rb | obtain ⟨_, rfl⟩ := rp_str rb | obtain rfl := rp_raw rb | obtain rfl := rps_nil rb | cases rb); exact SB.mul hs (fun _ _ => pStr)
-- comparisons as tests
theorem Ts.lt (hl : Ev prog w B₀ A env mu ρ l (.int a)) (hr : Ev prog w B₀ A env mu ρ r (.int b)) : Ts prog w B₀ A env mu ρ (.Compare l [.Lt] [r] pos) (decide (a < b)) :=
  Ts.cmp hl hr (fun _ _ s _ ra rb => by (first | obtain ⟨_, rfl⟩ := rp_int ra | obtain ⟨_, rfl⟩ := rp_str ra | obtain rfl := rp_raw ra | obtain rfl := rps_nil ra | cases ra); (first | obtain ⟨_, rfl⟩ := rp_int rb | obtain ⟨_, rfl⟩ := rp_str rb | obtain rfl := rp_raw rb | obtain rfl := rps_nil rb | cases rb); exact PyProof.Rows.lt_int ⟨rfl, Kp.refl s⟩) (bimLt r)
theorem Ts.le (hl : Ev prog w B₀ A env mu ρ l (.int a)) (hr : Ev prog w B₀ A env mu ρ r (.int b)) : Ts prog w B₀ A env mu ρ (.Compare l [.LtE] [r] pos) (decide (a ≤ b)) :=
  Ts.cmp hl hr (fun _ _ s _ ra rb => by (first | obtain ⟨_, rfl⟩ := rp_int ra | obtain ⟨_, rfl⟩ := rp_str ra | obtain rfl := rp_raw ra | obtain rfl := rps_nil ra | cases ra); (first | obtain ⟨_, rfl⟩ := rp_int rb | obtain ⟨_, rfl⟩ := rp_str rb | obtain rfl := rp_raw rb | obtain rfl := rps_nil rb | cases rb); exact PyProof.Rows.le_int ⟨rfl, Kp.refl s⟩) (bimLe r)
theorem Ts.eq (hl : Ev prog w B₀ A env mu ρ l (.int a)) (hr : Ev prog w B₀ A env mu ρ r (.int b)) : Ts prog w B₀ A env mu ρ (.Compare l [.Eq] [r] pos) (a == b) :=
  Ts.cmp hl hr (fun _ _ s _ ra rb => by (first | obtain ⟨_, rfl⟩ := rp_int ra | obtain ⟨_, rfl⟩ := rp_str ra | obtain rfl := rp_raw ra | obtain rfl := rps_nil ra | cases ra); (first | obtain ⟨_, rfl⟩ := rp_int rb | obtain ⟨_, rfl⟩ := rp_str rb | obtain rfl := rp_raw rb | obtain rfl := rps_nil rb | cases rb); exact PyProof.Rows.eq_int ⟨rfl, Kp.refl s⟩) (bimEq r)
theorem Ts.ne (hl : Ev prog w B₀ A env mu ρ l (.int a)) (hr : Ev prog w B₀ A env mu ρ r (.int b)) : Ts prog w B₀ A env mu ρ (.Compare l [.NotEq] [r] pos) (a != b) :=
  Ts.cmp hl hr (fun _ _ s _ ra rb => by (first | obtain ⟨_, rfl⟩ := rp_int ra | obtain ⟨_, rfl⟩ := rp_str ra | obtain rfl := rp_raw ra | obtain rfl := rps_nil ra | cases ra); (first | obtain ⟨_, rfl⟩ := rp_int rb | obtain ⟨_, rfl⟩ := rp_str rb | obtain rfl := rp_raw rb | obtain rfl := rps_nil rb | cases rb); exact PyProof.Rows.ne_int ⟨rfl, Kp.refl s⟩) (bimNe r)
theorem Ts.eqS (hl : Ev prog w B₀ A env mu ρ l (.str x)) (hr : Ev prog w B₀ A env mu ρ r (.str y)) : Ts prog w B₀ A env mu ρ (.Compare l [.Eq] [r] pos) (x == y) :=
  Ts.cmp hl hr (fun _ _ s _ ra rb => by (first | obtain ⟨_, rfl⟩ := rp_int ra | obtain ⟨_, rfl⟩ := rp_str ra | obtain rfl := rp_raw ra | obtain rfl := rps_nil ra | cases ra); (first | obtain ⟨_, rfl⟩ := rp_int rb | obtain ⟨_, rfl⟩ := rp_str rb | obtain rfl := rp_raw rb | obtain rfl := rps_nil rb | cases rb); exact PyProof.Rows.eq_str ⟨rfl, Kp.refl s⟩) (bimEq r)
theorem Ts.neS (hl : Ev prog w B₀ A env mu ρ l (.str x)) (hr : Ev prog w B₀ A env mu ρ r (.str y)) : Ts prog w B₀ A env mu ρ (.Compare l [.NotEq] [r] pos) (x != y) :=
  Ts.cmp hl hr (fun _ _ s _ ra rb => by (first | obtain ⟨_, rfl⟩ := rp_int ra | obtain ⟨_, rfl⟩ := rp_str ra | obtain rfl := rp_raw ra | obtain rfl := rps_nil ra | cases ra); (first | obtain ⟨_, rfl⟩ := rp_int rb | obtain ⟨_, rfl⟩ := rp_str rb | obtain rfl := rp_raw rb | obtain rfl := rps_nil rb | cases rb); exact PyProof.Rows.ne_str ⟨rfl, Kp.refl s⟩) (bimNe r)
theorem Ts.inS (hl : Ev prog w B₀ A env mu ρ l (.str y)) (hr : Ev prog w B₀ A env mu ρ r (.str x)) (hm : behindInMarks .In r = false := by with_unfolding_all rfl) : Ts prog w B₀ A env mu ρ (.Compare l [.In] [r] pos) (Txt.contains x y) :=
  Ts.cmp hl hr (fun _ _ s _ ra rb => by (first | obtain ⟨_, rfl⟩ := rp_int ra | obtain ⟨_, rfl⟩ := rp_str ra | obtain rfl := rp_raw ra | obtain rfl := rps_nil ra | cases ra); (first | obtain ⟨_, rfl⟩ := rp_int rb | obtain ⟨_, rfl⟩ := rp_str rb | obtain rfl := rp_raw rb | obtain rfl := rps_nil rb | cases rb); exact SB.contains ⟨rfl, Kp.refl s⟩) hm
theorem Ev.eq (hl : Ev prog w B₀ A env mu ρ l (.int a)) (hr : Ev prog w B₀ A env mu ρ r (.int b)) : Ev prog w B₀ A env mu ρ (.Compare l [.Eq] [r] pos) (.bool (a == b)) :=
  Ev.cmp hl hr (fun _ _ s _ ra rb => by (first | obtain ⟨_, rfl⟩ := rp_int ra | obtain ⟨_, rfl⟩ := rp_str ra | obtain rfl := rp_raw ra | obtain rfl := rps_nil ra | cases ra); (first | obtain ⟨_, rfl⟩ := rp_int rb | obtain ⟨_, rfl⟩ := rp_str rb | obtain rfl := rp_raw rb | obtain rfl := rps_nil rb | cases rb); exact PyProof.Rows.eq_int ⟨.bool _, Kp.refl s⟩) (bimEq r)
/-- one way or the other -/
theorem Ev.ite {t p q : Expr} {c : Bool} {d : D} (ht : Ts prog w B₀ A env mu ρ t c) (hp : c = true → Ev prog w B₀ A env mu ρ p d) (hq : c = false → Ev prog w B₀ A env mu ρ q d) : Ev prog w B₀ A env mu ρ (.IfExp t p q pos) d := fun s E F =>
  IfExp_ (wpAny_mono (ht s E F) (fun b s' ⟨e, K⟩ => by
    subst e
    cases b with
    | true => exact wpAny_mono (hp rfl s' E (F.keeps K)) (fun _ _ ⟨x, y⟩ => ⟨x, K.trans y⟩) fun _ _ x => x
    | false => exact wpAny_mono (hq rfl s' E (F.keeps K)) (fun _ _ ⟨x, y⟩ => ⟨x, K.trans y⟩) fun _ _ x => x) fun _ _ x => x)
-- methods of texts
theorem Ev.meth0 {o : Expr} {name : Str} {apos : Pos} {d : D} (ho : Ev prog w B₀ A env mu ρ o (.str x))
    (h : ∀ t s E, MethodOnS prog w A E name (.str x t) pos [] (fun v s' => Rp (Hid mu s'.heap) v d ∧ Kp s s') s)
    (hbase : attributeBase o name env (eval o env) = eval o env := by rfl) (hline : (apos.endLine == pos.line) = true := by rfl) :
    Ev prog w B₀ A env mu ρ (.Call (.Attribute o name apos) [] [] pos) d := fun s E F =>
  Call_method0 hbase hline (wpAny_mono (ho s E F) (fun v s' ⟨ra, K⟩ => by
    (first | obtain ⟨_, rfl⟩ := rp_int ra | obtain ⟨_, rfl⟩ := rp_str ra | obtain rfl := rp_raw ra | obtain rfl := rps_nil ra | cases ra)
    obtain ⟨T, id, p1, p2, p3, p4, p5, p6⟩ := h _ s' E
    exact ⟨T, id, p1, p2, p3, p4, p5, wpAny_mono p6 (fun _ _ ⟨x, y⟩ => ⟨x, K.trans y⟩) fun _ _ x => x⟩) fun _ _ x => x)
theorem Ev.meth1 {o e : Expr} {name : Str} {apos : Pos} {d d' : D} (ho : Ev prog w B₀ A env mu ρ o (.str x)) (he : Ev prog w B₀ A env mu ρ e d')
    (h : ∀ t s E, Frm B₀ env mu ρ s.heap → MethodOnS prog w A E name (.str x t) pos [(false, eval e env)] (fun v s' => Rp (Hid mu s'.heap) v d ∧ Kp s s') s)
    (hbase : attributeBase o name env (eval o env) = eval o env := by rfl) (hs : starEach [e] env = [(false, eval e env)] := by rfl) (hline : (apos.endLine == pos.line) = true := by rfl) :
    Ev prog w B₀ A env mu ρ (.Call (.Attribute o name apos) [e] [] pos) d := fun s E F =>
  Call_method1 hbase hs hline (wpAny_mono (ho s E F) (fun v s' ⟨ra, K⟩ => by
    (first | obtain ⟨_, rfl⟩ := rp_int ra | obtain ⟨_, rfl⟩ := rp_str ra | obtain rfl := rp_raw ra | obtain rfl := rps_nil ra | cases ra)
    obtain ⟨T, id, p1, p2, p3, p4, p5, p6⟩ := h _ s' E (F.keeps K)
    exact ⟨T, id, p1, p2, p3, p4, p5, wpAny_mono p6 (fun _ _ ⟨x, y⟩ => ⟨x, K.trans y⟩) fun _ _ x => x⟩) fun _ _ x => x)
theorem Ev.count {o e : Expr} {apos : Pos} (ho : Ev prog w B₀ A env mu ρ o (.str x)) (he : Ev prog w B₀ A env mu ρ e (.str y))
    (hbase : attributeBase o "count" env (eval o env) = eval o env := by rfl) (hs : starEach [e] env = [(false, eval e env)] := by rfl) (hline : (apos.endLine == pos.line) = true := by rfl) :
    Ev prog w B₀ A env mu ρ (.Call (.Attribute o "count" apos) [e] [] pos) (.int (Txt.count x y)) :=
  Ev.meth1 ho he (fun t s E F => SB.count (wpAny_mono (he s E F) (fun v s' ⟨ra, K⟩ => by (first | obtain ⟨_, rfl⟩ := rp_int ra | obtain ⟨_, rfl⟩ := rp_str ra | obtain rfl := rp_raw ra | obtain rfl := rps_nil ra | cases ra); exact ⟨_, _, rfl, .int _ _, K.trans (Kp.tok s' _)⟩) fun _ _ x => x)) hbase hs hline
theorem Ev.lower {o : Expr} {apos : Pos} (ho : Ev prog w B₀ A env mu ρ o (.str x)) (hx : x.length ≤ 5592405)
    (hbase : attributeBase o "lower" env (eval o env) = eval o env := by rfl) (hline : (apos.endLine == pos.line) = true := by rfl) : Ev prog w B₀ A env mu ρ (.Call (.Attribute o "lower" apos) [] [] pos) (.str (Txt.lower x)) :=
  Ev.meth0 ho (fun t s E => SBL.lower hx fun _ => ⟨.str _ _, Kp.tok s _⟩) hbase hline
theorem Ev.upper {o : Expr} {apos : Pos} (ho : Ev prog w B₀ A env mu ρ o (.str x)) (hx : x.length ≤ 5592405)
    (hbase : attributeBase o "upper" env (eval o env) = eval o env := by rfl) (hline : (apos.endLine == pos.line) = true := by rfl) : Ev prog w B₀ A env mu ρ (.Call (.Attribute o "upper" apos) [] [] pos) (.str (Txt.upper x)) :=
  Ev.meth0 ho (fun t s E => SBL.upper hx fun _ => ⟨.str _ _, Kp.tok s _⟩) hbase hline
end
end Mine
end
end
section
set_option Elab.async false
noncomputable section
open PySem PySem.W PySem.Calls PyProof.Rows
set_option maxRecDepth 100000
set_option linter.unusedVariables false
namespace Mine
section
variable {prog : Program} {w : World} {B₀ : Heap} {A : Around} {env : Env} {mu : List Addr} {ρ : List (Str × D)} {pos : Pos} {l r e : Expr} {a b : Int} {x y : Str} {ds ds' : List D}
theorem plist {h : Heap} {a : Addr} {vs : List Value} (p : (Hid mu h).PlainList a vs.toArray) : h.PlainList a vs.toArray := let ⟨n, e⟩ := p; ⟨n, (hid_get e).2⟩
theorem hid_new {h : Heap} {o : Obj} (hf : o.isFreed = false) (hm : h.objs.size ∉ mu) : (Hid mu (h.push o)).get? h.objs.size = some o := hid_of hm (Heap.get?_push_size _ hf)
/-- the hidden ones stand already -/
noncomputable def Low (mu : List Addr) (h : Heap) : Prop := ∀ b ∈ mu, ∃ o, h.get? b = some o
theorem Low.fresh {h : Heap} (p : Low mu h) : h.objs.size ∉ mu := fun q => let ⟨_, e⟩ := p _ q; Nat.lt_irrefl _ (Heap.lt_size e)
theorem Low.kp {s s' : Shared} (p : Low mu s.heap) (k : Kp s s') : Low mu s'.heap := fun b hb => let ⟨o, e⟩ := p b hb; ⟨o, k.sub b o e⟩
theorem Low.push {h : Heap} (p : Low mu h) (o : Obj) : Low mu (h.push o) := fun b hb => let ⟨o', e⟩ := p b hb; ⟨o', Heap.get?_push_of_some _ e⟩
theorem newLst {s : Shared} {vs : List Value} (hl : Low mu s.heap) (r : Rps (Hid mu s.heap) vs ds) :
    Rp (Hid mu (s.heap.push { cls := .type "list", data := .seq vs.toArray })) (.ref s.heap.objs.size) (.lst ds) ∧ Kp s { s with heap := s.heap.push { cls := .type "list", data := .seq vs.toArray } } :=
  ⟨.lst ⟨_, hid_new rfl hl.fresh⟩ (r.mono (Kp.push s _).hid), Kp.push s _⟩
theorem newTup {s : Shared} {vs : List Value} (hl : Low mu s.heap) (r : Rps (Hid mu s.heap) vs ds) :
    Rp (Hid mu (s.heap.push { cls := .type "tuple", data := .seq vs.toArray })) (.ref s.heap.objs.size) (.tup ds) ∧ Kp s { s with heap := s.heap.push { cls := .type "tuple", data := .seq vs.toArray } } :=
  ⟨.tup ⟨_, hid_new rfl hl.fresh⟩ (r.mono (Kp.push s _).hid), Kp.push s _⟩
-- displays
theorem evs_nil {s : Shared} {E : Value → Shared → Prop} {Q : List Value → Shared → Prop} (h : Q [] s) : wpAny (model prog w) A (spliced (backTo pos (starEach [] env))) Q E s := spliced_nil h
/-- several in turn -/
inductive Evs (prog : Program) (w : World) (B₀ : Heap) (A : Around) (env : Env) (mu : List Addr) (ρ : List (Str × D)) : List Expr → List D → Prop
  | nil : Evs prog w B₀ A env mu ρ [] []
  | cons {e : Expr} {d : D} {es : List Expr} {ds : List D} : Ev prog w B₀ A env mu ρ e d → (starEach (e :: es) env = (false, eval e env) :: starEach es env) → Evs prog w B₀ A env mu ρ es ds → Evs prog w B₀ A env mu ρ (e :: es) (d :: ds)
theorem Evs.run {es : List Expr} {ds : List D} (h : Evs prog w B₀ A env mu ρ es ds) : ∀ (s : Shared) (E : Value → Shared → Prop), Frm B₀ env mu ρ s.heap →
    wpAny (model prog w) A (spliced (backTo pos (starEach es env))) (fun vs s' => Rps (Hid mu s'.heap) vs ds ∧ Kp s s') E s := by
  induction h with
  | nil => exact fun s E F => spliced_nil ⟨.nil, Kp.refl s⟩
  | cons he hs hr ih =>
    intro s E F
    rw [hs]
    refine spliced_cons (wpAny_mono (he s E F) (fun v s₁ ⟨rv, K⟩ => ?_) fun _ _ x => x)
    exact wpAny_mono (ih s₁ E (F.keeps K)) (fun vs s₂ ⟨rvs, K'⟩ => ⟨.cons (rv.mono K'.hid) rvs, K.trans K'⟩) fun _ _ x => x
theorem Ev.list {es : List Expr} (h : Evs prog w B₀ A env mu ρ es ds) (hn : ds.length ≤ sizeLine) : Ev prog w B₀ A env mu ρ (.List es pos) (.lst ds) := fun s E F =>
  List_ (wpAny_mono (h.run s E F) (fun vs s' ⟨rv, K⟩ => wpAny_newObj_type (by
    have q := newLst (mu := mu) (s := s') ((F.keeps K).low) rv
    exact ⟨q.1, K.trans q.2⟩) (by show vs.toArray.size ≤ sizeLine; rw [List.size_toArray, rv.length]; exact hn)) fun _ _ x => x)
theorem Ev.tuple {es : List Expr} {k : Nat} (h : Evs prog w B₀ A env mu ρ es ds) (hn : ds.length ≤ sizeLine) : Ev prog w B₀ A env mu ρ (.Tuple es k pos) (.tup ds) := fun s E F =>
  Tuple_ (wpAny_mono (h.run s E F) (fun vs s' ⟨rv, K⟩ => wpAny_newObj_type (by
    have q := newTup (mu := mu) (s := s') ((F.keeps K).low) rv
    exact ⟨q.1, K.trans q.2⟩) (by show vs.toArray.size ≤ sizeLine; rw [List.size_toArray, rv.length]; exact hn)) fun _ _ x => x)
theorem Ev.ladd (hl : Ev prog w B₀ A env mu ρ l (.lst ds)) (hr : Ev prog w B₀ A env mu ρ r (.lst ds')) (hs : ds.length + ds'.length ≤ sizeLine) : Ev prog w B₀ A env mu ρ (.BinOp l .Add r pos) (.lst (ds ++ ds')) :=
  Ev.bin hl hr fun _ _ s _ ra rb F => by
    replace ra := rp_lst ra; obtain ⟨_, _, rfl, p, q⟩ := ra
    replace rb := rp_lst rb; obtain ⟨_, _, rfl, p', q'⟩ := rb
    obtain ⟨n, e⟩ := plist p
    obtain ⟨n', e'⟩ := plist p'
    refine P.add_list e e' ?_ (by simp [q.length, q'.length]; exact hs)
    rw [show ∀ u v : List Value, u.toArray ++ v.toArray = (u ++ v).toArray from fun u v => by simp]
    exact newLst F.low (q.append q')
-- an item of a list
theorem Ev.idx {i : Int} {d : D} (hl : Ev prog w B₀ A env mu ρ l (.lst ds)) (hr : Ev prog w B₀ A env mu ρ r (.int i)) (h0 : 0 ≤ i) (h1 : i < 2 ^ 63) (hd : ds[i.toNat]? = some d)
    (hs : ∀ o j, subscripted r false (.ref o) (.int i j) = operate [.ref o, .int i j] (getItem (.ref o) (.int i j)) := by intro _ _; rfl) : Ev prog w B₀ A env mu ρ (.Subscript l r pos) d := fun s E F =>
  Subscript_ (Ev.two hl hr F fun va vb s' ra rb K F' => by
    replace ra := rp_lst ra; obtain ⟨_, _, rfl, p, q⟩ := ra
    (first | obtain ⟨_, rfl⟩ := rp_int rb | obtain ⟨_, rfl⟩ := rp_str rb | obtain rfl := rp_raw rb | obtain rfl := rps_nil rb | cases rb)
    obtain ⟨v, ev, rv⟩ := q.getD hd
    have hL := (plist p).isList
    exact tail_any hL.typeIs slot_list_getitem.lookup (wpAny_getItem_list hL h0 h1 (by simpa using ev) ⟨rv, K⟩) (hs _ _))
theorem Ev.sidx {i : Int} (hl : Ev prog w B₀ A env mu ρ l (.str x)) (hr : Ev prog w B₀ A env mu ρ r (.int i)) (h0 : 0 ≤ i) (h1 : i < x.length) (h63 : (x.length : Int) < 9223372036854775808)
    (hs : ∀ o j, subscripted r false (.str x o) (.int i j) = operate [.str x o, .int i j] (getItem (.str x o) (.int i j)) := by intro _ _; rfl) : Ev prog w B₀ A env mu ρ (.Subscript l r pos) (.str (Txt.item x i)) := fun s E F =>
  Subscript_ (Ev.two hl hr F fun va vb s' ra rb K F' => by
    obtain ⟨t, rfl⟩ := rp_str ra
    obtain ⟨u, rfl⟩ := rp_int rb
    obtain ⟨T, id, e1, e2, e3⟩ := SBL.item (prog := prog) (w := w) (A := A) (E := E) (s := s') (x := x) (t := t) (u := u) (i := i) (Q := fun v s'' => Rp (Hid mu s''.heap) v (.str (Txt.item x i)) ∧ Kp s s'') (by omega) h1 h63 (fun _ => ⟨.str _ _, K.trans (Kp.tok s' _)⟩)
    exact tail_any e2 e1 e3 (hs _ _))
-- slices
inductive EvO (prog : Program) (w : World) (B₀ : Heap) (A : Around) (env : Env) (mu : List Addr) (ρ : List (Str × D)) : Option Expr → Option Int → Prop
  | none : EvO prog w B₀ A env mu ρ none none
  | some {e : Expr} {i : Int} : Ev prog w B₀ A env mu ρ e (.int i) → EvO prog w B₀ A env mu ρ (some e) (some i)
theorem EvO.run {o : Option Expr} {i : Option Int} (h : EvO prog w B₀ A env mu ρ o i) (s : Shared) (E : Value → Shared → Prop) (F : Frm B₀ env mu ρ s.heap) :
    wpAny (model prog w) A (evalPart o env) (fun v s' => (∃ p : Option (Int × Tok), v = partValue p ∧ p.map (·.1) = i) ∧ Kp s s') E s := by
  cases h with
  | none => exact evalPart_none_step ⟨⟨Option.none, rfl, rfl⟩, Kp.refl s⟩
  | some he => exact evalPart_some_step (wpAny_mono (he s E F) (fun v s' ⟨rv, K⟩ => by (first | obtain ⟨_, rfl⟩ := rp_int rv | obtain ⟨_, rfl⟩ := rp_str rv | obtain rfl := rp_raw rv | obtain rfl := rps_nil rv | cases rv); exact ⟨⟨Option.some (_, _), rfl, rfl⟩, K⟩) fun _ _ x => x)
theorem isPart_of : ∀ (p : Option (Int × Tok)), IsPart (partValue p) (p.map (·.1))
  | none => .none
  | some (i, t) => .int i t
/-- both parts, the slice laid -/
theorem Ev.cut {lo hi : Option Expr} {i j : Option Int} {p : Pos} {d d' : D} (hl : Ev prog w B₀ A env mu ρ l d) (ho : EvO prog w B₀ A env mu ρ lo i) (hu : EvO prog w B₀ A env mu ρ hi j)
    (h : ∀ v p q (s : Shared) E, Rp (Hid mu s.heap) v d → p.map (·.1) = i → q.map (·.1) = j → Frm B₀ env mu ρ s.heap →
      wpAny (model prog w) A (subscriptTail l (.Slice lo hi none pos) v (.ref s.heap.objs.size)) (fun v s' => Rp (Hid mu s'.heap) v d' ∧ Kp s s') E { s with heap := s.heap.push { cls := .type "slice", data := .fields #[partValue p, partValue q, .none] } }) :
    Ev prog w B₀ A env mu ρ (.Subscript l (.Slice lo hi none pos) p) d' := fun s E F =>
  Subscript_ (wpAny_mono (hl s E F) (fun v s₁ ⟨rv, K₁⟩ => wpAny_Slice (wpAny_mono (ho.run s₁ E (F.keeps K₁)) (fun vl s₂ ⟨⟨p, e, ep⟩, K₂⟩ => wpAny_mono (hu.run s₂ E ((F.keeps K₁).keeps K₂)) (fun vu s₃ ⟨⟨q, e', eq⟩, K₃⟩ =>
    evalPart_none_step (by
      subst e e'
      exact wpAny_mono (h v p q s₃ E (rv.mono (K₂.trans K₃).hid) ep eq (((F.keeps K₁).keeps K₂).keeps K₃)) (fun _ _ ⟨x, y⟩ => ⟨x, ((K₁.trans K₂).trans K₃).trans y⟩) fun _ _ x => x))
    fun _ _ x => x) fun _ _ x => x)) fun _ _ x => x)
theorem Ev.lcut {lo hi : Option Expr} {i j : Option Int} {p : Pos} (hl : Ev prog w B₀ A env mu ρ l (.lst ds)) (ho : EvO prog w B₀ A env mu ρ lo i) (hu : EvO prog w B₀ A env mu ρ hi j) (hn : ds.length ≤ sizeLine)
    (hc : ∀ (h : Heap) (vs : List Value), Rps h vs ds → ∃ us, slicePick vs.toArray i j none = List.toArray us ∧ Rps h us ds')
    (hs : ∀ o k, subscripted (.Slice lo hi none pos) false (.ref o) (.ref k) = operate [.ref k, .ref o] (getItem (.ref o) (.ref k)) := by intro _ _; rfl) :
    Ev prog w B₀ A env mu ρ (.Subscript l (.Slice lo hi none pos) p) (.lst ds') :=
  Ev.cut hl ho hu fun v p q s E rv ep eq F => by
    replace rv := rp_lst rv; obtain ⟨_, _, rfl, pl, rs⟩ := rv
    subst ep eq
    have hL := (plist pl).isList
    obtain ⟨us, eu, ru⟩ := hc _ _ rs
    refine tail_any (Heap.IsList.typeIs (s := { s with heap := s.heap.push { cls := .type "slice", data := .fields #[partValue p, partValue q, .none] } }) (hL.push _)) list_getitem_lookup
      (wpAny_getItem_list_slice (hL.push _) (Heap.IsSliceOf.new ..) (isPart_of p) (isPart_of q) .none (by simp) ?_ (by rw [List.size_toArray, rs.length]; exact hn)) (hs _ _)
    rw [eu]
    have q := newLst (mu := mu) (s := { s with heap := s.heap.push { cls := .type "slice", data := .fields #[partValue p, partValue q, .none] } }) (Low.push F.low _) (ru.mono (Kp.push s _).hid)
    exact ⟨q.1, (Kp.push s _).trans q.2⟩
theorem Ev.scut {lo hi : Option Expr} {i j : Option Int} {p : Pos} (hl : Ev prog w B₀ A env mu ρ l (.str x)) (ho : EvO prog w B₀ A env mu ρ lo i) (hu : EvO prog w B₀ A env mu ρ hi j) (hn : x.length ≤ sizeLine)
    (hs : ∀ o k, subscripted (.Slice lo hi none pos) false (.str x o) (.ref k) = operate [.ref k, .str x o] (getItem (.str x o) (.ref k)) := by intro _ _; rfl) :
    Ev prog w B₀ A env mu ρ (.Subscript l (.Slice lo hi none pos) p) (.str (Txt.slice x i j)) :=
  Ev.cut hl ho hu fun v p q s E rv ep eq F => by
    obtain ⟨t, rfl⟩ := rp_str rv
    subst ep eq
    refine tail_any (typeIs_str _ x t) PySem.F.slot_str_getitem.lookup (wpAny_getItem_str_slice (l := p) (u := q) (st := none) ⟨_, Heap.get?_push_size _ rfl, rfl, rfl⟩ rfl ?_) (hs _ _)
    exact post_val_or_str ⟨Nat.le_trans (Txt.slice_le x _ _) hn, fun t' k => ⟨.str _ _, (Kp.push s _).trans (Kp.tok _ _)⟩⟩
theorem cut_upto {n : Nat} (hn : n ≤ ds.length) : ∀ (h : Heap) (vs : List Value), Rps h vs ds → ∃ us, slicePick vs.toArray none (some (n : Int)) none = List.toArray us ∧ Rps h us (ds.take n) := fun h vs r =>
  ⟨_, slicePick_upto vs.toArray n (by rw [List.size_toArray, r.length]; exact hn), r.take n⟩
theorem cut_from {n : Nat} (hn : n ≤ ds.length) : ∀ (h : Heap) (vs : List Value), Rps h vs ds → ∃ us, slicePick vs.toArray (some (n : Int)) none none = List.toArray us ∧ Rps h us (ds.drop n) := fun h vs r =>
  ⟨_, slicePick_from vs.toArray n (by rw [List.size_toArray, r.length]; exact hn), r.drop n⟩
theorem cut_all : ∀ (h : Heap) (vs : List Value), Rps h vs ds → ∃ us, slicePick vs.toArray none none none = List.toArray us ∧ Rps h us ds := fun h vs r => ⟨_, slicePick_all _, r⟩
end
end Mine
end
end
section
set_option Elab.async false
noncomputable section
open PySem PySem.W PySem.Calls PyProof.Rows
set_option maxRecDepth 100000
set_option linter.unusedVariables false
namespace Mine
section
variable {prog : Program} {w : World} {B₀ : Heap} {A : Around} {env : Env} {mu : List Addr} {ρ : List (Str × D)} {pos : Pos} {l r e : Expr} {a b : Int} {x y : Str} {ds ds' : List D}
theorem Evs.plain {es : List Expr} {ds : List D} (h : Evs prog w B₀ A env mu ρ es ds) : (backTo pos (starEach es env)).any (·.1) = false := by
  induction h with
  | nil => rfl
  | cons he hs hr ih => rw [hs]; show (false || (backTo pos (starEach _ env)).any (·.1)) = false; rw [ih]; rfl
theorem Evs.args {f : Value} {es : List Expr} {ds : List D} (h : Evs prog w B₀ A env mu ρ es ds) {s : Shared} {E : Value → Shared → Prop} (F : Frm B₀ env mu ρ s.heap) {Q : Args → Shared → Prop}
    (hQ : ∀ vs s', Rps (Hid mu s'.heap) vs ds → Kp s s' → Q ⟨vs, []⟩ s') : wpAny (model prog w) A (evalArgs f true (backTo pos (starEach es env)) []) Q E s := by
  cases h with
  | nil => exact PySem.evalArgs_none (hQ [] s .nil (Kp.refl s))
  | cons he hs hr =>
    have q := (Evs.cons he hs hr).run (pos := pos) s E F
    rw [hs] at q ⊢
    exact evalArgs_plain (wpAny_mono q (fun vs s' ⟨r, K⟩ => hQ vs s' r K) fun _ _ x => x)
/-- a value that may be called with places alone -/
noncomputable def CW (prog : Program) (w : World) (B₀ : Heap) (f : Value) : Prop :=
  ∀ (A : Around) (env : Env) (mu : List Addr) (ρ : List (Str × D)) (pos : Pos) (es : List Expr) (ds : List D) (Q : Value → Shared → Prop) (E : Value → Shared → Prop) (s : Shared), Frm B₀ env mu ρ s.heap → Evs prog w B₀ A env mu ρ es ds →
    (∀ vs s', Rps (Hid mu s'.heap) vs ds → Kp s s' → wpAny (model prog w) A (call f vs) Q E s') → wpAny (model prog w) A (callWith pos f [] (backTo pos (starEach es env)) []) Q E s
theorem CW.builtin (id : String) : CW prog w B₀ (.builtin id) := fun A env mu ρ pos es ds Q E s F h hQ =>
  callWith_builtin h.plain (h.args F fun vs s' r K => hQ vs s' r K)
theorem CW.type (T : String) : CW prog w B₀ (.type T) := fun A env mu ρ pos es ds Q E s F h hQ =>
  PySem.callWith_type h.plain (h.args F fun vs s' r K => hQ vs s' r K)
theorem CW.fn {q : Addr} (X : FnAt q B₀) : CW prog w B₀ (.ref q) := fun A env mu ρ pos es ds Q E s F h hQ =>
  callWith_of (by rw [h.plain]; rfl) keeps_F (h.args F fun vs s' r K => ⟨let ⟨oc, od, fd, sl, e⟩ := X; ⟨oc, od, fd, sl, (F.keeps K).g _ _ e⟩, hQ vs s' r K⟩)
variable {mg mb : Str → Option Value}
/-- a name of the top, or a built-in's -/
noncomputable def Glb (mg mb : Str → Option Value) (x : Str) (f : Value) : Prop := mg x = some f ∨ (mg x = none ∧ mb x = some f)
theorem loadGlb (B : Base B₀ mg mb) {f : Value} {s : Shared} {E : Value → Shared → Prop} {Q : Value → Shared → Prop} (F : Frm B₀ env mu ρ s.heap) (hg : Glb mg mb x f) (hk : env.kindOf x = some .globalImplicit) (h : Q f s)
    (hd : (x == ("__debug__" : Str)) = false) : wpAny (model prog w) A (eval (.Name x pos) env) Q E s := by
  refine Name_function_global F.k hk ?_ hd
  have g : s.heap.Ns env.globals mg := by rw [F.gl]; exact B.g.keeps F.g
  have b : s.heap.Ns env.builtins mb := by rw [F.bl]; exact B.b.keeps F.g
  rcases hg with h1 | ⟨h1, h2⟩
  · exact loadGlobal_global g h1 h
  · exact loadGlobal_builtin g h1 b h2 h
theorem Ev.call (B : Base B₀ mg mb) {f : Value} {np : Pos} {es : List Expr} {d : D} (hg : Glb mg mb x f) (hcw : CW prog w B₀ f) (hes : Evs prog w B₀ A env mu ρ es ds)
    (h : ∀ vs s E, Rps (Hid mu s.heap) vs ds → Frm B₀ env mu ρ s.heap → wpAny (model prog w) A (PySem.call f vs) (fun v s' => Rp (Hid mu s'.heap) v d ∧ Kp s s') E s)
    (hk : env.kindOf x = some .globalImplicit := by rfl) (hd : (x == ("__debug__" : Str)) = false := by decide +kernel) : Ev prog w B₀ A env mu ρ (.Call (.Name x np) es [] pos) d := fun s E F =>
  wpAny_Call_NameR (loadGlb B F hg hk (hcw A env mu ρ pos es ds _ E s F hes fun vs s' r K => wpAny_mono (h vs s' E r (F.keeps K)) (fun _ _ ⟨x, y⟩ => ⟨x, K.trans y⟩) fun _ _ x => x) hd)
theorem Ev.lenS (B : Base B₀ mg mb) {np : Pos} (he : Ev prog w B₀ A env mu ρ e (.str x)) (hx : (x.length : Int) < 9223372036854775808) (hg : Glb mg mb "len" (.builtin "len")) (hs : starEach [e] env = [(false, eval e env)] := by rfl)
    (hk : env.kindOf "len" = some .globalImplicit := by rfl) : Ev prog w B₀ A env mu ρ (.Call (.Name "len" np) [e] [] pos) (.int x.length) :=
  Ev.call B hg (CW.builtin _) (.cons he hs .nil) (fun vs s E r F => by
    replace r := rps_cons r; obtain ⟨_, _, rfl, r1, r2⟩ := r
    (first | obtain ⟨_, rfl⟩ := rp_int r1 | obtain ⟨_, rfl⟩ := rp_str r1 | obtain rfl := rp_raw r1 | obtain rfl := rps_nil r1 | cases r1); (first | obtain ⟨_, rfl⟩ := rp_int r2 | obtain ⟨_, rfl⟩ := rp_str r2 | obtain rfl := rp_raw r2 | obtain rfl := rps_nil r2 | cases r2)
    exact SBL.len hx ⟨.int _ _, Kp.tok s _⟩) hk
theorem Ev.lenL (B : Base B₀ mg mb) {np : Pos} (he : Ev prog w B₀ A env mu ρ e (.lst ds)) (hx : (ds.length : Int) < 2 ^ 63) (hg : Glb mg mb "len" (.builtin "len")) (hs : starEach [e] env = [(false, eval e env)] := by rfl)
    (hk : env.kindOf "len" = some .globalImplicit := by rfl) : Ev prog w B₀ A env mu ρ (.Call (.Name "len" np) [e] [] pos) (.int ds.length) :=
  Ev.call B hg (CW.builtin _) (.cons he hs .nil) (fun vs s E r F => by
    replace r := rps_cons r; obtain ⟨_, _, rfl, r1, r2⟩ := r
    (first | obtain ⟨_, rfl⟩ := rp_int r2 | obtain ⟨_, rfl⟩ := rp_str r2 | obtain rfl := rp_raw r2 | obtain rfl := rps_nil r2 | cases r2)
    replace r1 := rp_lst r1; obtain ⟨_, _, rfl, p, q⟩ := r1
    refine call_len_list (plist p).isList (by rw [List.size_toArray, q.length]; exact hx) ?_
    rw [List.size_toArray, q.length]
    exact ⟨.int _ _, Kp.tok s _⟩) hk
end
end Mine
end
end
section
set_option Elab.async false
noncomputable section
open PySem PySem.W PySem.Calls PyProof.Rows
set_option maxRecDepth 100000
set_option linter.unusedVariables false
namespace Mine
/-- what an iterator at I walks: ds -/
structure Itr (prog : Program) (w : World) (A : Around) (mu : List Addr) (ds : List D) (s s₂ : Shared) (it : Value) (I : Addr) (fp wr : List Addr) (P : Nat → Value → Prop) (St : Nat → Heap → Prop) : Prop where
  isIt : it = .ref I
  W : Walks prog w A I fp wr ds.length P St
  st : St 0 s₂.heap
  onFp : ∀ b ∈ fp, b ∉ mu ∧ ∃ o, s₂.heap.get? b = some o
  onWr : ∀ b ∈ wr, s.heap.get? b = none
  rp : ∀ i v, i < ds.length → P i v → ∃ d, ds[i]? = some d ∧ Rp (Hid (wr ++ mu) s₂.heap) v d
  kp : Kp s s₂
  own : ∀ i (s : Shared) (Q : Unit → Shared → Prop) (E : Value → Shared → Prop) (tgt : Expr) (v : Value), St i s.heap → Q () s → wpAny (model prog w) A (letOwnedTupleGo tgt (.ref I) v) Q E s
  sz : ds.length ≤ sizeLine
  live : ∀ i h, St i h → ∀ b ∈ fp, ∃ o, h.get? b = some o
section
variable (prog : Program) (w : World) (B₀ : Heap)
noncomputable def It (A : Around) (env : Env) (mu : List Addr) (ρ : List (Str × D)) (e : Expr) (ds : List D) : Prop :=
  ∀ (s : Shared) (E : Value → Shared → Prop), Frm B₀ env mu ρ s.heap →
    wpAny (model prog w) A (eval e env) (fun x s₁ => wpAny (model prog w) A (pyIter x) (fun it s₂ => ∃ I fp wr P St, Itr prog w A mu ds s s₂ it I fp wr P St) E s₁) E s
end
section
variable {prog : Program} {w : World} {B₀ : Heap} {A : Around} {env : Env} {mu : List Addr} {ρ : List (Str × D)} {pos : Pos} {l r e : Expr} {a b : Int} {x y : Str} {ds ds' : List D}
theorem owned_skip {I : Addr} {o : Obj} {n : String} {s : Shared} {Q : Unit → Shared → Prop} {E : Value → Shared → Prop} (tgt : Expr) (v : Value) (ho : s.heap.get? I = some o) (hc : o.cls = .type n)
    (hn : (["enumerate", "zip", "dict_itemiterator", "dict_reverseitemiterator", "odict_iterator", "itertools.zip_longest", "itertools.pairwise"].contains n) = false) (h : Q () s) :
    wpAny (model prog w) A (letOwnedTupleGo tgt (.ref I) v) Q E s := by
  have go : wpAny (model prog w) A (do
    let (.ref r, .ref a) := ((Value.ref I, v) : Value × Value) | return
    let o ← load r
    match o.cls, o.data with
    | .type n, .fields vs =>
      if ["enumerate", "zip", "dict_itemiterator", "dict_reverseitemiterator", "odict_iterator", "itertools.zip_longest", "itertools.pairwise"].contains n && vs[0]? == some (rawInt a) then
        rule "for.unpacks-the-owned-tuple"
        updateField r 0 .none
    | _, _ => pure ()) Q E s := by
    cases v with
    | ref a =>
      refine wpAny_bind (wpAny_load ho ?_)
      rw [hc]
      split
      · rename_i n' vs e1 e2
        cases e1
        rw [hn, Bool.false_and]
        exact wpAny_pure h
      · exact wpAny_pure h
    | _ => exact wpAny_pure h
  unfold letOwnedTupleGo
  split
  · exact go
  · exact go
  · exact wpAny_pure h
theorem It.list (hh : A.handled = none) (he : Ev prog w B₀ A env mu ρ e (.lst ds)) (hn : ds.length ≤ sizeLine) : It prog w B₀ A env mu ρ e ds := fun s E F =>
  wpAny_mono (he s E F) (fun v s₁ ⟨rv, K⟩ => by
    replace rv := rp_lst rv; obtain ⟨ax, vs, rfl, p, q⟩ := rv
    have F₁ := F.keeps K
    have hL := (plist p).isList
    refine wpAny_pyIter_list hL ?_
    have hne : ax ≠ s₁.heap.objs.size := by obtain ⟨o, ho, _⟩ := hL; exact Nat.ne_of_lt (Heap.lt_size ho)
    have hlen : vs.toArray.size = ds.length := by rw [List.size_toArray, q.length]
    refine ⟨s₁.heap.objs.size, [s₁.heap.objs.size, ax], [s₁.heap.objs.size], _, _, rfl, hlen ▸ Walks.list hh _ ax hne vs.toArray, ⟨⟨_, Heap.get?_push_size _ rfl, rfl, rfl⟩, hL.push _⟩, fun b hb => ?_, fun b hb => ?_, fun i v hi e => ?_, K.trans (Kp.push s₁ _), fun i s' Q E tgt v st h => ?_, hn, fun i h st b hb => ?_⟩
    · rcases List.mem_cons.mp hb with rfl | hb
      · exact ⟨Low.fresh F₁.low, _, Heap.get?_push_size _ rfl⟩
      · rw [List.mem_singleton] at hb; subst hb
        obtain ⟨n, e⟩ := p
        exact ⟨(hid_get e).1, _, Heap.get?_push_of_some _ (hid_get e).2⟩
    · rw [List.mem_singleton] at hb; subst hb
      cases h : s.heap.get? s₁.heap.objs.size with
      | none => rfl
      | some o => exact absurd (Heap.lt_size (K.sub _ _ h)) (Nat.lt_irrefl _)
    · obtain ⟨d, ed, rd⟩ := q.get (by simpa using e)
      refine ⟨d, ed, rd.mono fun b o eb => ?_⟩
      obtain ⟨n1, e1⟩ := hid_get eb
      refine hid_of (fun hm => ?_) (Heap.get?_push_of_some _ e1)
      rcases List.mem_append.mp hm with hm | hm
      · rw [List.mem_singleton] at hm; subst hm; exact Nat.lt_irrefl _ (Heap.lt_size e1)
      · exact n1 hm
    · obtain ⟨⟨o, ho, hc, _⟩, _⟩ := st
      exact owned_skip tgt v ho hc (by decide +kernel) h
    · obtain ⟨⟨o, ho, _⟩, ⟨o', ho', _⟩⟩ := st
      rcases List.mem_cons.mp hb with rfl | hb
      · exact ⟨_, ho⟩
      · rw [List.mem_singleton] at hb; subst hb; exact ⟨_, ho'⟩) fun _ _ x => x
theorem fresh_at {s s₁ : Shared} (K : Kp s s₁) {a : Addr} (h : s₁.heap.objs.size ≤ a) : s.heap.get? a = none := by
  cases q : s.heap.get? a with
  | none => rfl
  | some o => exact absurd (Nat.lt_of_lt_of_le (Heap.lt_size (K.sub _ _ q)) h) (Nat.lt_irrefl _)
theorem It.strA (hh : A.handled = none) (he : Ev prog w B₀ A env mu ρ e (.str x)) (ha : x.cps.all (· < 128) = true) (hn : x.cps.size ≤ sizeLine) : It prog w B₀ A env mu ρ e (x.cps.toList.map fun c => D.str ⟨#[c]⟩) := fun s E F =>
  wpAny_mono (he s E F) (fun v s₁ ⟨rv, K⟩ => by
    obtain ⟨t, rfl⟩ := rp_str rv
    have F₁ := F.keeps K
    refine wpAny_pyIter_ascii ha ?_
    have hlen : x.cps.size = (x.cps.toList.map fun c => D.str ⟨#[c]⟩).length := by simp
    refine ⟨s₁.heap.objs.size, [s₁.heap.objs.size], [s₁.heap.objs.size], _, _, rfl, hlen ▸ Walks.strAscii hh _ x t, ⟨_, Heap.get?_push_size _ rfl, rfl, rfl⟩, fun b hb => ?_, fun b hb => ?_, fun i v hi e => ?_, K.trans (Kp.push s₁ _), fun i s' Q E tgt v st h => ?_, by rw [← hlen]; exact hn, fun i h st b hb => ?_⟩
    · rw [List.mem_singleton] at hb; subst hb
      exact ⟨Low.fresh F₁.low, _, Heap.get?_push_size _ rfl⟩
    · rw [List.mem_singleton] at hb; subst hb
      exact fresh_at K (Nat.le_refl _)
    · obtain ⟨c, u, ec, rfl⟩ := e
      exact ⟨.str ⟨#[c]⟩, by simp [ec], .str _ _⟩
    · obtain ⟨o, ho, hc, _⟩ := st
      exact owned_skip tgt v ho hc (by decide +kernel) h
    · obtain ⟨o, ho, _⟩ := st
      rw [List.mem_singleton] at hb; subst hb; exact ⟨_, ho⟩) fun _ _ x => x
/-- a .. b - 1 -/
noncomputable def rng (a b : Int) : List D := (List.range (b - a).toNat).map fun (i : Nat) => D.int (a + (i : Int))
theorem rng_len (a b : Int) : (rng a b).length = (b - a).toNat := by simp [rng]
theorem It.rangeTail {s₁ : Shared} {s : Shared} (hh : A.handled = none) (F : Frm B₀ env mu ρ s.heap) (K : Kp s s₁) {r : Addr} {t u v : Tok} (hr : IsRange s₁.heap r a b 1 t u v) (h1 : -(2 ^ 62) ≤ a) (h2 : a < 2 ^ 62) (h3 : -(2 ^ 62) ≤ b) (h4 : b < 2 ^ 62) (hn : (b - a).toNat ≤ sizeLine) {E : Value → Shared → Prop} :
    wpAny (model prog w) A (pyIter (.ref r)) (fun it s₂ => ∃ I fp wr P St, Itr prog w A mu (rng a b) s s₂ it I fp wr P St) E s₁ := by
  refine wpAny_pyIter_range hr (small_one h1 h2 h3 h4) ?_
  have hsz : Builtin.Range.rangeSize a b 1 = ((b - a).toNat : Int) := by rw [rangeSize_one]; split <;> omega
  have F₁ := F.keeps K
  refine ⟨s₁.heap.objs.size, [s₁.heap.objs.size], [s₁.heap.objs.size], _, _, rfl, (rng_len a b).symm ▸ Walks.range hh _ a 1 (b - a).toNat, ?_, fun b hb => ?_, fun b hb => ?_, fun i v hi e => ?_, K.trans (Kp.push s₁ _), fun i s' Q E tgt v st h => ?_, by rw [rng_len]; exact hn, fun i h st b hb => ?_⟩
  · have e1 : (a + ((0 : Nat) : Int) * 1) = a := by simp
    have e2 : (((b - a).toNat : Int) - ((0 : Nat) : Int)) = Builtin.Range.rangeSize a b 1 := by rw [hsz]; simp
    show IsRangeIter _ _ (a + ((0 : Nat) : Int) * 1) (((rng a b).length : Int) - ((0 : Nat) : Int)) 1
    rw [rng_len, e1, e2]
    exact Heap.get?_push_size _ rfl
  · rw [List.mem_singleton] at hb; subst hb
    exact ⟨Low.fresh F₁.low, _, Heap.get?_push_size _ rfl⟩
  · rw [List.mem_singleton] at hb; subst hb
    exact fresh_at K (Nat.le_refl _)
  · obtain ⟨t, rfl⟩ := e
    refine ⟨.int (a + (i : Int) * 1), ?_, .int _ _⟩
    rw [rng_len] at hi
    simp [rng, hi]
  · exact owned_skip tgt v st rfl (by decide +kernel) h
  · rw [List.mem_singleton] at hb; subst hb; exact ⟨_, st⟩
theorem It.range1 {mg mb : Str → Option Value} (B : Base B₀ mg mb) {np : Pos} (hh : A.handled = none) (hg : Glb mg mb "range" (.type "range")) (he : Ev prog w B₀ A env mu ρ e (.int b)) (h3 : -(2 ^ 62) ≤ b) (h4 : b < 2 ^ 62) (hn : b.toNat ≤ sizeLine)
    (hs : starEach [e] env = [(false, eval e env)] := by rfl) (hk : env.kindOf "range" = some .globalImplicit := by rfl) : It prog w B₀ A env mu ρ (.Call (.Name "range" np) [e] [] pos) (rng 0 b) := fun s E F =>
  wpAny_Call_NameR (loadGlb B F hg hk (CW.type "range" A env mu ρ pos [e] [.int b] _ E s F (.cons he hs .nil) fun vs s' r K => by
    replace r := rps_cons r; obtain ⟨_, _, rfl, r1, r2⟩ := r
    (first | obtain ⟨_, rfl⟩ := rp_int r1 | obtain ⟨_, rfl⟩ := rp_str r1 | obtain rfl := rp_raw r1 | obtain rfl := rps_nil r1 | cases r1); (first | obtain ⟨_, rfl⟩ := rp_int r2 | obtain ⟨_, rfl⟩ := rp_str r2 | obtain rfl := rp_raw r2 | obtain rfl := rps_nil r2 | cases r2)
    refine call_range_1 ?_
    exact It.rangeTail (s := s) hh F (K.trans (Kp.mk fun _ _ e => Heap.get?_push_of_some _ e)) (IsRange.new ..) (by decide) (by decide) h3 h4 (by simpa using hn)) (by decide +kernel))
theorem It.range2 {mg mb : Str → Option Value} (B : Base B₀ mg mb) {np : Pos} {e' : Expr} (hh : A.handled = none) (hg : Glb mg mb "range" (.type "range")) (he : Ev prog w B₀ A env mu ρ e (.int a)) (he' : Ev prog w B₀ A env mu ρ e' (.int b)) (h1 : -(2 ^ 62) ≤ a) (h2 : a < 2 ^ 62) (h3 : -(2 ^ 62) ≤ b) (h4 : b < 2 ^ 62) (hn : (b - a).toNat ≤ sizeLine)
    (hs : starEach [e, e'] env = (false, eval e env) :: starEach [e'] env := by rfl) (hs' : starEach [e'] env = [(false, eval e' env)] := by rfl) (hk : env.kindOf "range" = some .globalImplicit := by rfl) : It prog w B₀ A env mu ρ (.Call (.Name "range" np) [e, e'] [] pos) (rng a b) := fun s E F =>
  wpAny_Call_NameR (loadGlb B F hg hk (CW.type "range" A env mu ρ pos [e, e'] [.int a, .int b] _ E s F (.cons he hs (.cons he' hs' .nil)) fun vs s' r K => by
    replace r := rps_cons r; obtain ⟨_, _, rfl, r1, r2⟩ := r
    replace r2 := rps_cons r2; obtain ⟨_, _, rfl, r2, r3⟩ := r2
    (first | obtain ⟨_, rfl⟩ := rp_int r1 | obtain ⟨_, rfl⟩ := rp_str r1 | obtain rfl := rp_raw r1 | obtain rfl := rps_nil r1 | cases r1); (first | obtain ⟨_, rfl⟩ := rp_int r2 | obtain ⟨_, rfl⟩ := rp_str r2 | obtain rfl := rp_raw r2 | obtain rfl := rps_nil r2 | cases r2); (first | obtain ⟨_, rfl⟩ := rp_int r3 | obtain ⟨_, rfl⟩ := rp_str r3 | obtain rfl := rp_raw r3 | obtain rfl := rps_nil r3 | cases r3)
    refine call_range_2 ?_
    exact It.rangeTail (s := s) hh F (K.trans (Kp.mk fun _ _ e => Heap.get?_push_of_some _ e)) (IsRange.new ..) h1 h2 h3 h4 hn) (by decide +kernel))
end
end Mine
end
end
section
set_option Elab.async false
noncomputable section
open PySem PySem.W PySem.Calls PyProof.Rows
set_option maxRecDepth 100000
set_option linter.unusedVariables false
namespace Mine
noncomputable def TURN (p : Pos) (it : Value) (tgt : Expr) (ifs : List Expr) (act : Sem Unit) (env : Env) (c : Code) : Sem Fin := do
  standAt p
  match ← pyNext it with
  | none => pure (.done .next)
  | some v =>
    letOwnedTupleGo tgt it v
    assign tgt env v
    let mut ok := true
    for c in ifs do
      if ok then ok ← isTrue c env (eval c env)
    if ok then act
    again c
noncomputable def emitL (elt : Expr) (acc : Value) (env : Env) : Sem Unit := do let _ ← call (.builtin "list.append") [acc, ← eval elt env]
theorem turn_L1 (elt tgt iter : Expr) (ifs : List Expr) (scope : Scope) (pos : Pos) (it acc : Value) (env : Env) :
    compTurn (.ListComp elt [⟨tgt, iter, ifs, 0⟩] scope pos) 0 it acc env = TURN iter.pos it tgt ifs (emitL elt acc env) env (.compLoop (.ListComp elt [⟨tgt, iter, ifs, 0⟩] scope pos) 0 it acc env) := by rfl
noncomputable def TURN2 (p : Pos) (it : Value) (tgt : Expr) (ifs : List Expr) (e iter' : Expr) (acc : Value) (env : Env) (c : Code) : Sem Fin := do
  standAt p
  match ← pyNext it with
  | none => pure (.done .next)
  | some v =>
    letOwnedTupleGo tgt it v
    assign tgt env v
    let mut ok := true
    for c in ifs do
      if ok then ok ← isTrue c env (eval c env)
    if ok then
      let x ← eval iter' env
      standAt iter'.pos
      let x ← foldedSetIterable iter' env x
      let _ ← runOwn (.compStart e 1 (← holding [x] (pyIter x)) acc env) env
    again c
theorem turn_L2a (elt tgt iter tgt' iter' : Expr) (ifs ifs' : List Expr) (scope : Scope) (pos : Pos) (it acc : Value) (env : Env) :
    compTurn (.ListComp elt [⟨tgt, iter, ifs, 0⟩, ⟨tgt', iter', ifs', 0⟩] scope pos) 0 it acc env =
      TURN2 iter.pos it tgt ifs (.ListComp elt [⟨tgt, iter, ifs, 0⟩, ⟨tgt', iter', ifs', 0⟩] scope pos) iter' acc env (.compLoop (.ListComp elt [⟨tgt, iter, ifs, 0⟩, ⟨tgt', iter', ifs', 0⟩] scope pos) 0 it acc env) := by rfl
theorem turn_L2b (elt tgt iter tgt' iter' : Expr) (ifs ifs' : List Expr) (scope : Scope) (pos : Pos) (it acc : Value) (env : Env) :
    compTurn (.ListComp elt [⟨tgt, iter, ifs, 0⟩, ⟨tgt', iter', ifs', 0⟩] scope pos) 1 it acc env =
      TURN iter'.pos it tgt' ifs' (emitL elt acc env) env (.compLoop (.ListComp elt [⟨tgt, iter, ifs, 0⟩, ⟨tgt', iter', ifs', 0⟩] scope pos) 1 it acc env) := by rfl
noncomputable def emitD (k v : Expr) (acc : Value) (env : Env) : Sem Unit := do
  let kv ← eval k env
  let vv ← holding [kv] (eval v env)
  match acc with
  | .ref d => do
    standAt { k.pos with endLine := v.pos.endLine, endCol := v.pos.endCol }
    holding [kv, vv] (dictSet d kv vv)
  | _ => unsupported "internal:dictcomp"
theorem turn_D1 (k v tgt iter : Expr) (ifs : List Expr) (scope : Scope) (pos : Pos) (it acc : Value) (env : Env) :
    compTurn (.DictComp k v [⟨tgt, iter, ifs, 0⟩] scope pos) 0 it acc env = TURN iter.pos it tgt ifs (emitD k v acc env) env (.compLoop (.DictComp k v [⟨tgt, iter, ifs, 0⟩] scope pos) 0 it acc env) := by rfl
section
variable {prog : Program} {w : World} {A : Around} {R : Result → Shared → Prop} {s : Shared}
/-- the tests of a clause -/
noncomputable def tests (ifs : List Expr) (env : Env) : Sem Bool := forIn ifs true fun c r => if r = true then do let ok ← isTrue c env (eval c env); pure (ForInStep.yield ok) else pure (ForInStep.yield r)
theorem loop_gen {e : Expr} {depth : Nat} {it acc : Value} {env : Env} {p : Pos} {tgt : Expr} {ifs : List Expr} {act : Sem Unit}
    (hturn : compTurn e depth it acc env = TURN p it tgt ifs act env (.compLoop e depth it acc env)) (hfr : (Code.compLoop e depth it acc env).isFrame = false) (hund : A.under (.compLoop e depth it acc env) = A) (I : Nat → Shared → Prop)
    (turn : ∀ n s E, I n s → wpAny (model prog w) A (pyNext it) (fun r s₁ => match r with
      | none => R (.ok .next) s₁
      | some v => wpAny (model prog w) A (letOwnedTupleGo tgt it v) (fun _ s₁' => wpAny (model prog w) A (assign tgt env v) (fun _ s₂ =>
          wpAny (model prog w) A (tests ifs env) (fun ok s₃ => if ok = true then wpAny (model prog w) A act (fun _ s₅ => ∃ m, m < n ∧ I m s₅) E s₃ else ∃ m, m < n ∧ I m s₃) E s₂) E s₁') E s₁) E s)
    (n : Nat) (h : I n s) : codeAny (model prog w) A (.compLoop e depth it acc env) R s := by
  refine codeAny_loop rfl I (fun n s hI => ?_) n h
  rw [hund]
  show wpAny _ A (if (Code.compLoop e depth it acc env).isFrame = true then (compTurn e depth it acc env).onRaise (leaving env) else (compTurn e depth it acc env).onRaise (fun x => do noteFrame x env; theTreesLotGoes x)) _ _ s
  rw [hfr, if_neg Bool.false_ne_true]
  refine wpAny_noted ?_
  rw [hturn]
  unfold TURN
  refine wpAny_bind (wpAny_standAt (wpAny_bind (wpAny_mono (turn n s _ hI) (fun r s₁ h₁ => ?_) fun _ _ h' => h')))
  cases r with
  | none => exact wpAny_pure h₁
  | some v =>
    refine wpAny_bind (wpAny_mono h₁ (fun _ s₁' h₁' => wpAny_bind (wpAny_mono h₁' (fun _ s₂ h₂ => wpAny_bind (wpAny_mono h₂ (fun ok s₃ h₃ => ?_) fun _ _ h' => h')) fun _ _ h' => h')) fun _ _ h' => h')
    cases ok with
    | false => exact wpAny_pure ⟨rfl, h₃⟩
    | true => exact wpAny_bind (wpAny_mono h₃ (fun _ s₅ h₅ => wpAny_pure ⟨rfl, h₅⟩) fun _ _ h' => h')
theorem loop_gen2 {e iter' : Expr} {it acc : Value} {env : Env} {p : Pos} {tgt : Expr} {ifs : List Expr}
    (hturn : compTurn e 0 it acc env = TURN2 p it tgt ifs e iter' acc env (.compLoop e 0 it acc env)) (hfr : (Code.compLoop e 0 it acc env).isFrame = false) (hund : A.under (.compLoop e 0 it acc env) = A) (hfs : ∀ x, foldedSetIterable iter' env x = pure x) (I : Nat → Shared → Prop)
    (turn : ∀ n s E, I n s → wpAny (model prog w) A (pyNext it) (fun r s₁ => match r with
      | none => R (.ok .next) s₁
      | some v => wpAny (model prog w) A (letOwnedTupleGo tgt it v) (fun _ s₁' => wpAny (model prog w) A (assign tgt env v) (fun _ s₂ =>
          wpAny (model prog w) A (tests ifs env) (fun ok s₃ => if ok = true then
            wpAny (model prog w) A (eval iter' env) (fun x s₄ => wpAny (model prog w) A (pyIter x) (fun it' s₅ => wpAny (model prog w) A (runOwn (.compStart e 1 it' acc env) env) (fun _ s₆ => ∃ m, m < n ∧ I m s₆) E s₅) E s₄) E s₃
            else ∃ m, m < n ∧ I m s₃) E s₂) E s₁') E s₁) E s)
    (n : Nat) (h : I n s) : codeAny (model prog w) A (.compLoop e 0 it acc env) R s := by
  refine codeAny_loop rfl I (fun n s hI => ?_) n h
  rw [hund]
  show wpAny _ A (if (Code.compLoop e 0 it acc env).isFrame = true then (compTurn e 0 it acc env).onRaise (leaving env) else (compTurn e 0 it acc env).onRaise (fun x => do noteFrame x env; theTreesLotGoes x)) _ _ s
  rw [hfr, if_neg Bool.false_ne_true]
  refine wpAny_noted ?_
  rw [hturn]
  unfold TURN2
  refine wpAny_bind (wpAny_standAt (wpAny_bind (wpAny_mono (turn n s _ hI) (fun r s₁ h₁ => ?_) fun _ _ h' => h')))
  cases r with
  | none => exact wpAny_pure h₁
  | some v =>
    refine wpAny_bind (wpAny_mono h₁ (fun _ s₁' h₁' => wpAny_bind (wpAny_mono h₁' (fun _ s₂ h₂ => wpAny_bind (wpAny_mono h₂ (fun ok s₃ h₃ => ?_) fun _ _ h' => h')) fun _ _ h' => h')) fun _ _ h' => h')
    cases ok with
    | false => exact wpAny_pure ⟨rfl, h₃⟩
    | true =>
      refine wpAny_bind (wpAny_mono h₃ (fun x s₄ h₄ => ?_) fun _ _ h' => h')
      refine wpAny_bind (wpAny_standAt (wpAny_bind (wpAny_of_eq (hfs x) ?_)))
      refine wpAny_bind (wpAny_holding (wpAny_mono h₄ (fun it' s₅ h₅ => ?_) fun _ _ h' => h'))
      exact wpAny_bind (wpAny_mono h₅ (fun _ s₆ h₆ => wpAny_pure ⟨rfl, h₆⟩) fun _ _ h' => h')
end
end Mine
end
end
section
set_option Elab.async false
noncomputable section
open PySem PySem.W PySem.Calls PyProof.Rows
set_option maxRecDepth 100000
set_option linter.unusedVariables false
namespace Mine
noncomputable def ownCells (C : Addr) (scope : Scope) : List (Str × Addr) := cellsFrom (C + 1) scope.names []
theorem cellsFrom_acc : ∀ (names : List (Str × NameKind)) (n : Nat) (acc : List (Str × Addr)), cellsFrom n names acc = cellsFrom n names [] ++ acc
  | [], _, _ => rfl
  | (y, k) :: r, n, acc => by
    unfold cellsFrom
    split
    · rw [cellsFrom_acc r (n + 1) ((y, n) :: acc), cellsFrom_acc r (n + 1) [(y, n)], List.append_assoc]; rfl
    · exact cellsFrom_acc r n acc
/-- a comprehension's own block -/
noncomputable def cenvOf (scope : Scope) (cl : List (Str × Addr)) (env : Env) (C : Addr) : Env :=
  { scope := relabel scope env, locals := C, globals := env.globals, cells := ownCells C scope ++ cl, qual := env.qual, func := none, code := env.code, frame := env.frame, builtins := env.builtins }
section
variable {prog : Program} {w : World} {B₀ : Heap} {A : Around} {env : Env} {mu : List Addr} {ρ : List (Str × D)} {scope : Scope} {cl : List (Str × Addr)}
theorem newCenv {s : Shared} {E : Value → Shared → Prop} {Q : Env → Shared → Prop}
    (h : ∀ h', h'.Ns s.heap.objs.size (fun _ => none) → CellsOk h' (s.heap.objs.size + 1) (ownCells s.heap.objs.size scope) → Sub s.heap h' → ∀ env', { env' with scope := relabel scope env } = cenvOf scope cl env s.heap.objs.size → env'.locals = s.heap.objs.size → Q env' { s with heap := h' }) :
    wpAny (model prog w) A (newFunctionEnv scope env.globals cl [] env.qual none .none (some env)) Q E s := by
  simp only [newFunctionEnv, Option.isSome_some, if_true]
  refine wpAny_bind (wpAny_alloc ?_)
  refine wpAny_bind (wpAny_layCells _ (fun name kind cells => by cases hkc : kind == NameKind.cell <;> simp [hkc]) _ _ _ _ ?_)
  have ok := cellsFrom_ok scope.names (s.heap.push { cls := .type "dict", data := .dict #[] }) (s.heap.objs.size + 1) [] ⟨fun _ _ hm => (nomatch hm), List.Pairwise.nil⟩ (by rw [Heap.size_push]; exact Nat.le_refl _)
  rw [Heap.size_push] at ok
  rw [show ({ s with heap := s.heap.push { cls := .type "dict", data := .dict #[] } } : Shared).heap.objs.size = s.heap.objs.size + 1 from Heap.size_push ..]
  refine wpAny_bind (by
    show wpAny _ _ (pure ()) _ _ _
    refine wpAny_pure (wpAny_pure (h _ ((Heap.Ns.new s.heap (.type "dict")).keeps (pushCells_keeps _ _)) ok (fun b o e => pushCells_keeps _ _ b o (Heap.get?_push_of_some _ e)) _ ?_ rfl))
    unfold cenvOf ownCells
    rw [cellsFrom_acc])
noncomputable def isCellKind : Option NameKind → Bool
  | some .cell => true
  | some .free => true
  | _ => false
theorem VarAt.cell {h : Heap} {y : Str} {v : Value} (k : isCellKind (env.kindOf y) = true) (p : VarAt env h y v) : ∃ c, env.cells.lookup y = some c ∧ h.IsCell c (some v) := by
  unfold VarAt at p
  split at p
  · rename_i e; rw [e] at k; cases k
  · exact p
  · exact p
  · exact p.elim
theorem VarAt.ofCell {h : Heap} {y : Str} {v : Value} {c : Addr} (k : isCellKind (env.kindOf y) = true) (e : env.cells.lookup y = some c) (i : h.IsCell c (some v)) : VarAt env h y v := by
  unfold VarAt
  split
  · rename_i e'; rw [e'] at k; cases k
  · exact ⟨c, e, i⟩
  · exact ⟨c, e, i⟩
  · rename_i h1 h2 h3
    revert k
    cases q : env.kindOf y with
    | none => intro k; cases k
    | some x => cases x <;> first | exact absurd q h1 | exact absurd q h2 | exact absurd q h3 | (intro k; cases k)
/-- the names that a comprehension sees of its block -/
noncomputable def FreeOk (env : Env) (ρ : List (Str × D)) (scope : Scope) (cl : List (Str × Addr)) : List (Str × D) → Prop
  | [] => True
  | (y, d) :: r => (ρ.lookup y = some d ∧ isCellKind (env.kindOf y) = true ∧ isCellKind ((relabel scope env).names.lookup y) = true ∧ (scope.names.all fun p => !(p.2 == .cell && p.1 == y)) = true ∧ cl.lookup y = env.cells.lookup y) ∧ FreeOk env ρ scope cl r
theorem FreeOk.get : ∀ {ρf : List (Str × D)}, FreeOk env ρ scope cl ρf → ∀ y d, ρf.lookup y = some d → ρ.lookup y = some d ∧ isCellKind (env.kindOf y) = true ∧ isCellKind ((relabel scope env).names.lookup y) = true ∧ (scope.names.all fun p => !(p.2 == .cell && p.1 == y)) = true ∧ cl.lookup y = env.cells.lookup y
  | [], _, y, d, e => by cases e
  | (z, d') :: r, h, y, d, e => by
    rw [List.lookup_cons] at e
    cases q : y == z with
    | true => rw [q] at e; cases e; rw [eq_of_beq q]; exact h.1
    | false => rw [q] at e; exact FreeOk.get h.2 y d e
theorem own_none : ∀ (names : List (Str × NameKind)) (n : Nat) (y : Str), (names.all fun p => !(p.2 == .cell && p.1 == y)) = true → (cellsFrom n names []).lookup y = none
  | [], _, _, _ => rfl
  | (z, k) :: r, n, y, h => by
    rw [List.all_cons, Bool.and_eq_true] at h
    unfold cellsFrom
    split
    · rename_i hk
      rw [cellsFrom_acc, List.lookup_append, own_none r (n + 1) y h.2]
      have hz : (y == z) = false := by
        have := h.1
        rw [hk, Bool.true_and] at this
        cases q : y == z with
        | false => rfl
        | true => rw [eq_of_beq q] at this; simp at this
      show (Option.none).or (List.lookup y [(z, n)]) = none
      rw [List.lookup_cons, hz]; rfl
    · exact own_none r n y h.2
theorem lookup_mem {α : Type} {l : List (Str × α)} {n : Str} {c : α} (h : l.lookup n = some c) : (n, c) ∈ l := mem_of_lookup h
noncomputable abbrev muC (C D : Addr) (scope : Scope) (mu : List Addr) : List Addr := C :: D :: ((ownCells C scope).map (·.2) ++ mu)
theorem Frm.comp {h₂ h₄ : Heap} {C D₀ : Addr} {ρf : List (Str × D)} (F : Frm B₀ env mu ρ h₂) (k : Sub h₂ h₄) (hC : ∀ b o, h₂.get? b = some o → b < C) (hD : h₂.get? D₀ = none) (hDo : ∃ o, h₄.get? D₀ = some o)
    (n : h₄.Ns C (fun _ => none)) (ok : CellsOk h₄ (C + 1) (ownCells C scope)) (hkind : scope.kind = .function) (hcl : ∀ y c, cl.lookup y = some c → env.cells.lookup y = some c) (hf : FreeOk env ρ scope cl ρf) :
    Frm B₀ (cenvOf scope cl env C) (muC C D₀ scope mu) ρf h₄ := by
  have nC : h₂.get? C = none := by cases q : h₂.get? C with | none => rfl | some o => exact absurd (hC _ _ q) (Nat.lt_irrefl _)
  have nb : ∀ a, h₂.get? a = none → B₀.get? a = none := fun a e => by cases q : B₀.get? a with | none => rfl | some o => rw [F.g _ _ q] at e; cases e
  have own_fresh : ∀ y c, (y, c) ∈ ownCells C scope → h₂.get? c = none := fun y c hm => by
    cases q : h₂.get? c with
    | none => rfl
    | some o => exact absurd (Nat.lt_of_lt_of_le (hC _ _ q) (Nat.le_of_succ_le (ok.empty y c hm).2)) (Nat.lt_irrefl _)
  have look : ∀ y c, (ownCells C scope ++ cl).lookup y = some c → (ownCells C scope).lookup y = some c ∨ cl.lookup y = some c := fun y c e => by
    rw [List.lookup_append] at e
    cases q : (ownCells C scope).lookup y with
    | some c' => rw [q] at e; exact .inl e
    | none => rw [q] at e; exact .inr e
  have hid : Sub (Hid mu h₂) (Hid (muC C D₀ scope mu) h₄) := fun b o e => by
    obtain ⟨n1, e1⟩ := hid_get e
    refine hid_of (fun hm => ?_) (k _ _ e1)
    rcases List.mem_cons.mp hm with q | hm
    · rw [q, nC] at e1; cases e1
    · rcases List.mem_cons.mp hm with q | hm
      · rw [q, hD] at e1; cases e1
      · rcases List.mem_append.mp hm with hm | hm
        · obtain ⟨p, hp, q⟩ := List.mem_map.mp hm
          rw [← q, own_fresh p.1 p.2 hp] at e1; cases e1
        · exact n1 hm
  obtain ⟨oC, _, _, eC, _⟩ := id n
  refine ⟨F.g.trans k, hkind, F.gl, F.bl, fun b hb => ?_, ⟨⟨.head _, nb C nC⟩, fun y c e => ?_, fun y y' c e e' => ?_⟩, ⟨_, n⟩, fun y c e => ?_, fun y d e => ?_⟩
  · rcases List.mem_cons.mp hb with q | hb
    · exact q ▸ ⟨oC, eC⟩
    · rcases List.mem_cons.mp hb with q | hb
      · exact q ▸ hDo
      · rcases List.mem_append.mp hb with hb | hb
        · obtain ⟨p, hp, q⟩ := List.mem_map.mp hb
          obtain ⟨o, eo, _⟩ := (ok.empty p.1 p.2 hp).1
          exact ⟨o, q ▸ eo⟩
        · obtain ⟨o, eo⟩ := F.low b hb; exact ⟨o, k _ _ eo⟩
  · rcases look y c e with e | e
    · have hm := lookup_mem e
      exact ⟨.tail _ (.tail _ (List.mem_append_left _ (List.mem_map.mpr ⟨(y, c), hm, rfl⟩))), nb c (own_fresh y c hm), Nat.ne_of_gt (ok.empty y c hm).2⟩
    · obtain ⟨h1, h2, _⟩ := F.wf.cel y c (hcl y c e)
      obtain ⟨o, eo⟩ := F.low c h1
      exact ⟨.tail _ (.tail _ (List.mem_append_right _ h1)), h2, Nat.ne_of_lt (hC c o eo)⟩
  · rcases look y c e with q | q <;> rcases look y' c e' with q' | q'
    · exact name_of_addr ok.apart (lookup_mem q) (lookup_mem q')
    · obtain ⟨o, eo⟩ := F.low c (F.wf.cel y' c (hcl y' c q')).1
      rw [own_fresh y c (lookup_mem q)] at eo; cases eo
    · obtain ⟨o, eo⟩ := F.low c (F.wf.cel y c (hcl y c q)).1
      rw [own_fresh y' c (lookup_mem q')] at eo; cases eo
    · exact F.wf.inj y y' c (hcl y c q) (hcl y' c q')
  · rcases look y c e with q | q
    · exact ⟨_, (ok.empty y c (lookup_mem q)).1⟩
    · obtain ⟨v, i⟩ := F.cl y c (hcl y c q); exact ⟨v, i.keeps k⟩
  · obtain ⟨e1, e2, e3, e4, e5⟩ := hf.get y d e
    obtain ⟨v, p, r⟩ := F.var y d e1
    obtain ⟨c, ec, i⟩ := p.cell e2
    refine ⟨v, VarAt.ofCell (env := cenvOf scope cl env C) e3 (c := c) ?_ (i.keeps k), r.mono hid⟩
    show (ownCells C scope ++ cl).lookup y = some c
    rw [List.lookup_append, show (ownCells C scope).lookup y = none from own_none _ _ _ e4, e5, ec]; rfl
end
end Mine
end
end
section
set_option Elab.async false
noncomputable section
open PySem PySem.W PySem.Calls PyProof.Rows
set_option maxRecDepth 100000
set_option linter.unusedVariables false
namespace Mine
section
variable {prog : Program} {w : World} {B₀ : Heap} {A : Around} {env : Env} {mu : List Addr} {ρ : List (Str × D)} {scope : Scope} {cl : List (Str × Addr)}
/-- other own things turn -/
theorem Frm.ws {ws : List Addr} {h h' : Heap} (F : Frm B₀ env mu ρ h) (k : SubB ws h h') (hw : ∀ b ∈ ws, b ∈ mu ∧ B₀.get? b = none ∧ b ≠ env.locals ∧ ∀ n c, env.cells.lookup n = some c → c ≠ b) (live : ∀ b ∈ ws, ∃ o, h'.get? b = some o) : Frm B₀ env mu ρ h' := by
  have cell : ∀ n c v, env.cells.lookup n = some c → h.IsCell c v → h'.IsCell c v := fun n c v e i => by
    obtain ⟨o, eo, r⟩ := i
    exact ⟨o, k c o (fun hm => (hw c hm).2.2.2 n c e rfl) eo, r⟩
  have ns : ∀ m, h.Ns env.locals m → h'.Ns env.locals m := fun m n => n.at' fun o e => k _ o (fun hm => (hw _ hm).2.2.1 rfl) e
  refine ⟨fun b o e => k b o (fun hm => by rw [(hw b hm).2.1] at e; cases e) (F.g b o e), F.k, F.gl, F.bl, fun b hb => ?_, F.wf, let ⟨m, n⟩ := F.ns; ⟨m, ns m n⟩, fun n c e => let ⟨v, i⟩ := F.cl n c e; ⟨v, cell n c v e i⟩, fun x d e => ?_⟩
  · by_cases q : b ∈ ws
    · exact live b q
    · obtain ⟨o, eo⟩ := F.low b hb; exact ⟨o, k b o q eo⟩
  · obtain ⟨v, p, r⟩ := F.var x d e
    refine ⟨v, ?_, r.mono (k.hid fun b hb => (hw b hb).1)⟩
    unfold VarAt at *
    split at p
    · obtain ⟨m, n, em⟩ := p; exact ⟨m, ns m n, em⟩
    · obtain ⟨c, ec, i⟩ := p; exact ⟨c, ec, cell x c _ ec i⟩
    · obtain ⟨c, ec, i⟩ := p; exact ⟨c, ec, cell x c _ ec i⟩
    · exact p
/-- more is hidden -/
theorem Frm.hide {ws : List Addr} {s s' : Shared} (F : Frm B₀ env mu ρ s.heap) (K : Kp s s') (hw : ∀ b ∈ ws, s.heap.get? b = none) (live : ∀ b ∈ ws, ∃ o, s'.heap.get? b = some o) : Frm B₀ env (ws ++ mu) ρ s'.heap := by
  have hid : Sub (Hid mu s.heap) (Hid (ws ++ mu) s'.heap) := fun b o e => by
    obtain ⟨n, e1⟩ := hid_get e
    refine hid_of (fun hm => ?_) (K.sub _ _ e1)
    rcases List.mem_append.mp hm with hm | hm
    · rw [hw b hm] at e1; cases e1
    · exact n hm
  have F' := F.keeps K
  refine ⟨F'.g, F.k, F.gl, F.bl, fun b hb => ?_, ⟨⟨List.mem_append_right _ F.wf.loc.1, F.wf.loc.2⟩, fun n c e => ⟨List.mem_append_right _ (F.wf.cel n c e).1, (F.wf.cel n c e).2⟩, F.wf.inj⟩, F'.ns, F'.cl, fun x d e => ?_⟩
  · rcases List.mem_append.mp hb with hb | hb
    · exact live b hb
    · exact F'.low b hb
  · obtain ⟨v, p, r⟩ := F.var x d e
    exact ⟨v, p.sub K.sub, r.mono hid⟩
/-- a target takes an item -/
noncomputable def AsT (prog : Program) (w : World) (B₀ : Heap) (env : Env) (tgt : Expr) (d : D) (bs : List (Str × D)) (md : List Addr) : Prop :=
  ∀ (A : Around) (mu : List Addr) (ρ : List (Str × D)) (s : Shared) (E : Value → Shared → Prop) (v : Value) (Q : Unit → Shared → Prop), Frm B₀ env mu ρ s.heap → Rp (Hid mu s.heap) v d → A.handled = none →
    (∀ h' tk, Frm B₀ env mu (bs ++ ρ) h' → SubB md s.heap h' → (∀ b ∈ md, b ∈ mu) → Q () { s with heap := h', toks := tk }) → wpAny (model prog w) A (assign tgt env v) Q E s
theorem AsT.name {x : Str} {px : Pos} {d : D} {a : Addr} (S : SlotOf env x a) : AsT prog w B₀ env (.Name x px) d [(x, d)] [a] := fun A mu ρ s E v Q F r _ h =>
  assign_name F S r fun h' tk F' hs _ => h h' tk F' (fun b o n e => sameBut_get hs (by simpa using n) e) fun b hb => by rw [List.mem_singleton] at hb; subst hb; exact (S.mem F.wf).1
/-- a clause's tests -/
noncomputable def Tss (prog : Program) (w : World) (B₀ : Heap) (A : Around) (env : Env) (mu : List Addr) (ρ : List (Str × D)) (ifs : List Expr) (b : Bool) : Prop :=
  ∀ (s : Shared) (E : Value → Shared → Prop), Frm B₀ env mu ρ s.heap → wpAny (model prog w) A (tests ifs env) (fun ok s' => ok = b ∧ Kp s s') E s
theorem Tss.nil : Tss prog w B₀ A env mu ρ [] true := fun s E F => wpAny_tests_nil ⟨rfl, Kp.refl s⟩
theorem Tss.one {c : Expr} {b : Bool} (h : Ts prog w B₀ A env mu ρ c b) : Tss prog w B₀ A env mu ρ [c] b := fun s E F => wpAny_tests_one (h s E F)
/-- the list that a comprehension fills -/
noncomputable def Acc (D₀ : Addr) (MU : List Addr) (ys : List D) (h : Heap) : Prop := ∃ vs : List Value, h.PlainList D₀ vs.toArray ∧ Rps (Hid MU h) vs ys
theorem Acc.subB {D₀ : Addr} {MU ws : List Addr} {ys : List D} {h h' : Heap} (x : Acc D₀ MU ys h) (k : SubB ws h h') (hD : D₀ ∉ ws) (hs : ∀ b ∈ ws, b ∈ MU) : Acc D₀ MU ys h' := by
  obtain ⟨vs, p, r⟩ := x
  exact ⟨vs, p.at fun o e => k _ _ hD e, r.mono (k.hid hs)⟩
theorem emit_list {elt : Expr} {d : D} {D₀ : Addr} {ys : List D} {s : Shared} {E : Value → Shared → Prop} (F : Frm B₀ env mu ρ s.heap) (he : Ev prog w B₀ A env mu ρ elt d) (hD : D₀ ∈ mu) (x : Acc D₀ mu ys s.heap) (hn : ys.length ≤ sizeLine)
    {Q : Unit → Shared → Prop} (h : ∀ h' tk, Acc D₀ mu (ys ++ [d]) h' → SubB [D₀] s.heap h' → (∃ o, h'.get? D₀ = some o) → Q () { s with heap := h', toks := tk }) : wpAny (model prog w) A (emitL elt (.ref D₀) env) Q E s := by
  unfold emitL
  refine wpAny_bind (wpAny_mono (he s E F) (fun v s₁ ⟨rv, K⟩ => ?_) fun _ _ x => x)
  have x₁ := x.subB (ws := []) (Sub.b K.sub) (by simp) (by simp)
  obtain ⟨vs, p, r⟩ := x₁
  refine wpAny_bind (wpAny_list_append_plain p (fun h' p' hs => ?_) (by rw [List.size_toArray, r.length]; exact hn))
  obtain ⟨h₁, tk₁, rfl, k₁⟩ := id K
  have sb : SubB [D₀] h₁ h' := fun b o n e => sameBut_get hs (by simpa using n) e
  have hid : Sub (Hid mu h₁) (Hid mu h') := sb.hid (by simp [hD])
  refine wpAny_pure (h h' tk₁ ⟨vs ++ [v], by simpa using p', (r.append (.cons rv .nil)).mono hid⟩ (fun b o n e => sb b o n (k₁ b o e)) ?_)
  obtain ⟨n, e⟩ := p'
  exact ⟨_, e⟩
end
end Mine
end
end
section
set_option Elab.async false
noncomputable section
open PySem PySem.W PySem.Calls PyProof.Rows
set_option maxRecDepth 100000
set_option linter.unusedVariables false
namespace Mine
section
variable {prog : Program} {w : World} {B₀ : Heap} {A : Around} {env : Env} {mu : List Addr} {ρ : List (Str × D)} {scope : Scope} {cl : List (Str × Addr)}
theorem hid_eqv {mu mu' : List Addr} {h : Heap} (e : ∀ b, b ∈ mu' → b ∈ mu) : Sub (Hid mu h) (Hid mu' h) := fun b o q => let ⟨n, q'⟩ := hid_get q; hid_of (fun m => n (e b m)) q'
theorem Frm.eqv {mu' : List Addr} {h : Heap} (F : Frm B₀ env mu ρ h) (e : ∀ b, b ∈ mu ↔ b ∈ mu') : Frm B₀ env mu' ρ h :=
  ⟨F.g, F.k, F.gl, F.bl, fun b hb => F.low b ((e b).mpr hb), ⟨⟨(e _).mp F.wf.loc.1, F.wf.loc.2⟩, fun n c q => ⟨(e _).mp (F.wf.cel n c q).1, (F.wf.cel n c q).2⟩, F.wf.inj⟩, F.ns, F.cl, fun x d q => let ⟨v, p, r⟩ := F.var x d q; ⟨v, p, r.mono (hid_eqv fun b hb => (e b).mpr hb)⟩⟩
theorem Acc.eqv {D₀ : Addr} {mu' : List Addr} {ys : List D} {h : Heap} (x : Acc D₀ mu ys h) (e : ∀ b, b ∈ mu' → b ∈ mu) : Acc D₀ mu' ys h := let ⟨vs, p, r⟩ := x; ⟨vs, p, r.mono (hid_eqv e)⟩
theorem drop_hid {ws : List Addr} {h h' : Heap} (k : SubB ws h h') : Sub (Hid (ws ++ mu) h) (Hid mu h') := fun b o q => by
  obtain ⟨n, e⟩ := hid_get q
  exact hid_of (fun m => n (List.mem_append_right _ m)) (k b o (fun m => n (List.mem_append_left _ m)) e)
theorem Frm.drop {ws : List Addr} {h h' : Heap} (F : Frm B₀ env (ws ++ mu) ρ h) (k : SubB ws h h') (hl : env.locals ∈ mu) (hc : ∀ n c, env.cells.lookup n = some c → c ∈ mu) (hw : ∀ b ∈ ws, b ∉ mu ∧ B₀.get? b = none) : Frm B₀ env mu ρ h' := by
  have nl : ∀ b ∈ mu, b ∉ ws := fun b hb hm => (hw b hm).1 hb
  have cell : ∀ n c v, env.cells.lookup n = some c → h.IsCell c v → h'.IsCell c v := fun n c v e ⟨o, eo, r⟩ => ⟨o, k c o (nl c (hc n c e)) eo, r⟩
  have ns : ∀ m, h.Ns env.locals m → h'.Ns env.locals m := fun m n => n.at' fun o e => k _ o (nl _ hl) e
  refine ⟨fun b o e => k b o (fun hm => by rw [(hw b hm).2] at e; cases e) (F.g b o e), F.k, F.gl, F.bl, fun b hb => ?_, ⟨⟨hl, F.wf.loc.2⟩, fun n c q => ⟨hc n c q, (F.wf.cel n c q).2⟩, F.wf.inj⟩, let ⟨m, n⟩ := F.ns; ⟨m, ns m n⟩, fun n c e => let ⟨v, i⟩ := F.cl n c e; ⟨v, cell n c v e i⟩, fun x d e => ?_⟩
  · obtain ⟨o, eo⟩ := F.low b (List.mem_append_right _ hb); exact ⟨o, k b o (nl b hb) eo⟩
  · obtain ⟨v, p, r⟩ := F.var x d e
    refine ⟨v, ?_, r.mono (drop_hid k)⟩
    unfold VarAt at *
    split at p
    · obtain ⟨m, n, em⟩ := p; exact ⟨m, ns m n, em⟩
    · obtain ⟨c, ec, i⟩ := p; exact ⟨c, ec, cell x c _ ec i⟩
    · obtain ⟨c, ec, i⟩ := p; exact ⟨c, ec, cell x c _ ec i⟩
    · exact p
theorem Acc.drop {D₀ : Addr} {ws : List Addr} {ys : List D} {h h' : Heap} (x : Acc D₀ (ws ++ mu) ys h) (k : SubB ws h h') (hD : D₀ ∉ ws) : Acc D₀ mu ys h' :=
  let ⟨vs, p, r⟩ := x; ⟨vs, p.at fun o e => k _ _ hD e, r.mono (drop_hid k)⟩
/-- one item's worth of a clause -/
noncomputable def StepL (prog : Program) (w : World) (B₀ : Heap) (A : Around) (env : Env) (MU own : List Addr) (ρ : List (Str × D)) (D₀ : Addr) (run : Value → (Shared → Prop) → (Value → Shared → Prop) → Shared → Prop) (d : D) (out : List D) : Prop :=
  ∀ (s : Shared) (E : Value → Shared → Prop) (v : Value) (ys : List D) (Q : Shared → Prop), Frm B₀ env MU ρ s.heap → Acc D₀ MU ys s.heap → Rp (Hid MU s.heap) v d → (ys ++ out).length ≤ sizeLine →
    (∀ h' tk, Frm B₀ env MU ρ h' → Acc D₀ MU (ys ++ out) h' → SubB own s.heap h' → Q { s with heap := h', toks := tk }) → run v Q E s
/-- the clause's turn behind its draw -/
noncomputable def run1 (prog : Program) (w : World) (A : Around) (tgt : Expr) (ifs : List Expr) (act : Sem Unit) (env : Env) (v : Value) (Q : Shared → Prop) (E : Value → Shared → Prop) (s : Shared) : Prop :=
  wpAny (model prog w) A (assign tgt env v) (fun _ s₂ => wpAny (model prog w) A (tests ifs env) (fun ok s₃ => if ok = true then wpAny (model prog w) A act (fun _ s₅ => Q s₅) E s₃ else Q s₃) E s₂) E s
noncomputable def run2 (prog : Program) (w : World) (A : Around) (tgt : Expr) (ifs : List Expr) (e iter' : Expr) (acc : Value) (env : Env) (v : Value) (Q : Shared → Prop) (E : Value → Shared → Prop) (s : Shared) : Prop :=
  wpAny (model prog w) A (assign tgt env v) (fun _ s₂ => wpAny (model prog w) A (tests ifs env) (fun ok s₃ => if ok = true then
    wpAny (model prog w) A (eval iter' env) (fun x s₄ => wpAny (model prog w) A (pyIter x) (fun it' s₅ => wpAny (model prog w) A (runOwn (.compStart e 1 it' acc env) env) (fun _ s₆ => Q s₆) E s₅) E s₄) E s₃ else Q s₃) E s₂) E s
/-- what holds between two turns -/
noncomputable def LInv (B₀ : Heap) (env : Env) (MU own : List Addr) (ρ : List (Str × D)) (D₀ : Addr) (wr : List Addr) (ds : List D) (St : Nat → Heap → Prop) (f : D → List D) (ys : List D) (s₀ : Shared) (k : Nat) (s : Shared) : Prop :=
  ∃ i h tk, k = ds.length + 1 - i ∧ i ≤ ds.length ∧ s = { s₀ with heap := h, toks := tk } ∧ St i h ∧ Frm B₀ env (wr ++ MU) ρ h ∧ Acc D₀ (wr ++ MU) (ys ++ (ds.take i).flatMap f) h ∧ SubB (wr ++ own) s₀.heap h
theorem take_flat {f : D → List D} {ds : List D} {i : Nat} {d : D} (e : ds[i]? = some d) : (ds.take (i + 1)).flatMap f = (ds.take i).flatMap f ++ f d := by
  rw [List.take_succ, e]; simp
theorem flat_len {f : D → List D} (ds : List D) (i : Nat) : ((ds.take i).flatMap f).length ≤ (ds.flatMap f).length := by
  conv => rhs; rw [← List.take_append_drop i ds, List.flatMap_append, List.length_append]
  omega
theorem loop_turn {MU own : List Addr} {D₀ I : Addr} {fp wr : List Addr} {ds ys : List D} {P : Nat → Value → Prop} {St : Nat → Heap → Prop} {f : D → List D} {s₀ : Shared} {R : Result → Shared → Prop} {run : Value → (Shared → Prop) → (Value → Shared → Prop) → Shared → Prop} {tgt : Expr}
    (W : Walks prog w A I fp wr ds.length P St) (hfp : ∀ b ∈ fp, b ∉ MU) (hown : ∀ b ∈ own, b ∈ MU) (hwb : ∀ b ∈ wr, B₀.get? b = none) (hD : D₀ ∈ MU) (hloc : env.locals ∈ MU) (hcel : ∀ n c, env.cells.lookup n = some c → c ∈ MU)
    (hrp : ∀ i v, i < ds.length → P i v → ∃ d, ds[i]? = some d ∧ Rp (Hid (wr ++ MU) s₀.heap) v d) (hg : ∀ i (s : Shared) (Q : Unit → Shared → Prop) (E : Value → Shared → Prop) (v : Value), St i s.heap → Q () s → wpAny (model prog w) A (letOwnedTupleGo tgt (.ref I) v) Q E s)
    (live : ∀ i h, St i h → ∀ b ∈ fp, ∃ o, h.get? b = some o) (hsz : (ys ++ ds.flatMap f).length ≤ sizeLine)
    (step : ∀ d ∈ ds, StepL prog w B₀ A env (wr ++ MU) own ρ D₀ run d (f d))
    (hR : ∀ h' tk, Frm B₀ env MU ρ h' → Acc D₀ MU (ys ++ ds.flatMap f) h' → SubB (wr ++ own) s₀.heap h' → R (.ok .next) { s₀ with heap := h', toks := tk })
    (n : Nat) (s : Shared) (E : Value → Shared → Prop) (hI : LInv B₀ env MU own ρ D₀ wr ds St f ys s₀ n s) :
    wpAny (model prog w) A (pyNext (.ref I)) (fun r s₁ => match r with
      | none => R (.ok .next) s₁
      | some v => wpAny (model prog w) A (letOwnedTupleGo tgt (.ref I) v) (fun _ s₁' => run v (fun s₅ => ∃ m, m < n ∧ LInv B₀ env MU own ρ D₀ wr ds St f ys s₀ m s₅) E s₁') E s₁) E s := by
  obtain ⟨i, h, tk, rfl, hi, rfl, st, F, ac, sb⟩ := hI
  have hDw : D₀ ∉ wr := fun hm => hfp _ (W.sub _ hm) hD
  have hww : ∀ b ∈ wr, b ∈ wr ++ MU ∧ B₀.get? b = none ∧ b ≠ env.locals ∧ ∀ n c, env.cells.lookup n = some c → c ≠ b := fun b hb =>
    ⟨List.mem_append_left _ hb, hwb b hb, fun q => hfp b (W.sub b hb) (q ▸ hloc), fun n c e q => hfp b (W.sub b hb) (q ▸ hcel n c e)⟩
  rcases Nat.lt_or_ge i ds.length with hlt | hge
  · refine W.item i _ _ E hlt st fun v h₁ tk₁ Pv st₁ k₁ => ?_
    obtain ⟨d, ed, rd⟩ := hrp i v hlt Pv
    have kb : SubB wr h h₁ := fun b o n e => k₁ b o n e
    have F₁ : Frm B₀ env (wr ++ MU) ρ h₁ := F.ws kb hww fun b hb => live _ _ st₁ b (W.sub b hb)
    have ac₁ := ac.subB kb hDw fun b hb => List.mem_append_left _ hb
    have sb₁ : SubB (wr ++ own) s₀.heap h₁ := sb.trans (kb.mono fun b hb => List.mem_append_left _ hb)
    have rv : Rp (Hid (wr ++ MU) h₁) v d := rd.mono (sb₁.hid fun b hb => by
      rcases List.mem_append.mp hb with q | q
      · exact List.mem_append_left _ q
      · exact List.mem_append_right _ (hown b q))
    dsimp only
    refine hg _ _ _ E v st₁ ?_
    have hl : ((ys ++ (ds.take i).flatMap f) ++ f d).length ≤ sizeLine := by
      have := flat_len (f := f) ds (i + 1)
      rw [take_flat ed] at this
      rw [List.length_append] at hsz
      rw [List.append_assoc, List.length_append]
      exact Nat.le_trans (Nat.add_le_add_left this _) hsz
    refine step d (List.mem_of_getElem? ed) _ E v _ _ F₁ ac₁ rv hl fun h₂ tk₂ F₂ ac₂ sb₂ => ?_
    refine ⟨ds.length + 1 - (i + 1), by omega, i + 1, h₂, tk₂, rfl, hlt, rfl, ?_, F₂, ?_, sb₁.trans (sb₂.mono fun b hb => List.mem_append_right _ hb)⟩
    · refine W.frame _ _ _ st₁ fun b hb o e => sb₂ b o (fun hm => hfp b hb (hown b hm)) e
    · rw [take_flat ed, ← List.append_assoc]; exact ac₂
  · have hi' : i = ds.length := Nat.le_antisymm hi hge
    subst hi'
    refine W.done _ _ E st fun h₁ tk₁ k₁ => ?_
    have kb : SubB wr h h₁ := fun b o n e => k₁ b o n e
    rw [List.take_length] at ac
    exact hR h₁ tk₁ (F.drop kb hloc hcel fun b hb => ⟨hfp b (W.sub b hb), hwb b hb⟩) (ac.drop kb hDw) (sb.trans (kb.mono fun b hb => List.mem_append_left _ hb))
end
end Mine
end
end
section
set_option Elab.async false
noncomputable section
open PySem PySem.W PySem.Calls PyProof.Rows
set_option maxRecDepth 100000
set_option linter.unusedVariables false
namespace Mine
section
variable {prog : Program} {w : World} {B₀ : Heap} {A : Around} {env : Env} {mu : List Addr} {ρ : List (Str × D)} {scope : Scope} {cl : List (Str × Addr)}
/-- an address of its own, beside a frame's -/
structure Aside (B₀ : Heap) (env : Env) (MU : List Addr) (a : Addr) : Prop where
  mem : a ∈ MU
  base : B₀.get? a = none
  loc : a ≠ env.locals
  cel : ∀ n c, env.cells.lookup n = some c → c ≠ a
theorem stepL1 {MU own : List Addr} {D₀ : Addr} {tgt elt : Expr} {ifs : List Expr} {d g : D} {b : Bool} {bs : List (Str × D)} {md : List Addr} (hh : A.handled = none) (hT : AsT prog w B₀ env tgt d bs md) (hmd : ∀ x ∈ md, x ∈ own) (hmD : D₀ ∉ md)
    (hts : Tss prog w B₀ A env MU (bs ++ ρ) ifs b) (hel : b = true → Ev prog w B₀ A env MU (bs ++ ρ) elt g) (hdis : ∀ y e, ρ.lookup y = some e → (bs ++ ρ).lookup y = some e) (hD : Aside B₀ env MU D₀) (hDo : D₀ ∈ own) :
    StepL prog w B₀ A env MU own ρ D₀ (run1 prog w A tgt ifs (emitL elt (.ref D₀) env) env) d (if b then [g] else []) := by
  intro s E v ys Q F ac rv hl hQ
  unfold run1
  refine hT A MU ρ s E v _ F rv hh fun h' tk F' sb hmu => ?_
  refine wpAny_mono (hts _ E F') (fun ok s₃ ⟨e, K⟩ => ?_) fun _ _ x => x
  subst e
  have F₃ := F'.keeps K
  have ac' : Acc D₀ MU ys h' := ac.subB sb hmD hmu
  have ac₃ : Acc D₀ MU ys s₃.heap := ac'.subB (ws := []) (Sub.b K.sub) (by simp) (by simp)
  obtain ⟨h₃, tk₃, rfl, k₃⟩ := id K
  have sb₃ : SubB own s.heap h₃ := fun b o n e => k₃ b o (sb b o (fun q => n (hmd b q)) e)
  cases ok with
  | false =>
    rw [if_neg Bool.false_ne_true]
    refine hQ h₃ tk₃ (F₃.weak hdis) ?_ sb₃
    simpa using ac₃
  | true =>
    rw [if_pos rfl]
    refine emit_list F₃ (hel rfl) hD.mem ac₃ (by simp at hl; omega) fun h₄ tk₄ ac₄ sb₄ live => ?_
    have F₄ : Frm B₀ env MU (bs ++ ρ) h₄ := F₃.ws sb₄ (fun b hb => by rw [List.mem_singleton] at hb; subst hb; exact ⟨hD.mem, hD.base, hD.loc, hD.cel⟩) fun b hb => by rw [List.mem_singleton] at hb; subst hb; exact live
    exact hQ h₄ tk₄ (F₄.weak hdis) (by simpa using ac₄) (sb₃.trans (sb₄.mono fun b hb => by rw [List.mem_singleton] at hb; subst hb; exact hDo))
theorem under_comp {e : Expr} {dp : Nat} {it acc : Value} (h : (Code.compLoop e dp it acc env).isFrame = false) : A.under (.compLoop e dp it acc env) = A := by
  cases e <;> first | rfl | (cases dp <;> first | rfl | (cases h))
theorem opt_len {p : D → Bool} {f : D → D} : ∀ ds : List D, (ds.flatMap fun d => if p d = true then [f d] else []).length ≤ ds.length
  | [] => Nat.le_refl _
  | d :: ds => by
    have := opt_len (p := p) (f := f) ds
    rw [List.flatMap_cons, List.length_append, List.length_cons]
    have h1 : (if p d = true then [f d] else []).length ≤ 1 := by split <;> simp
    omega
theorem opt_eq {p : D → Bool} {f : D → D} : ∀ ds : List D, (ds.flatMap fun d => if p d = true then [f d] else []) = (ds.filter p).map f
  | [] => rfl
  | d :: ds => by rw [List.flatMap_cons, opt_eq ds, List.filter_cons]; split <;> simp
/-- the whole of a list comprehension with one clause -/
theorem compL1 {tgt iter elt : Expr} {ifs : List Expr} {pos : Pos} {ds : List D} {ρf : List (Str × D)} {p : D → Bool} {f : D → D} {bs : D → List (Str × D)} {s : Shared} {E : Value → Shared → Prop} {RR : Value → Addr → Result → Shared → Prop}
    (hh : A.handled = none) (F : Frm B₀ env mu ρ s.heap) (hit : It prog w B₀ A env mu ρ iter ds) (hsub : ∀ y c, cl.lookup y = some c → env.cells.lookup y = some c) (hkind : scope.kind = .function) (hf : FreeOk env ρ scope cl ρf)
    (hT : ∀ C d, d ∈ ds → ∃ md, AsT prog w B₀ (cenvOf scope cl env C) tgt d (bs d) md ∧ ∀ b ∈ md, b = C ∨ b ∈ (ownCells C scope).map (·.2))
    (hdis : ∀ d y e, ρf.lookup y = some e → (bs d ++ ρf).lookup y = some e)
    (hts : ∀ C MU d, d ∈ ds → Tss prog w B₀ A (cenvOf scope cl env C) MU (bs d ++ ρf) ifs (p d)) (hel : ∀ C MU d, d ∈ ds → p d = true → Ev prog w B₀ A (cenvOf scope cl env C) MU (bs d ++ ρf) elt (f d))
    (hRR : ∀ D₀ C h' tk, s.heap.get? D₀ = none → s.heap.get? C = none → D₀ ≠ C → (∃ m, h'.Ns C m) → Rp (Hid (C :: mu) h') (.ref D₀) (.lst ((ds.filter p).map f)) → Sub s.heap h' → RR (.ref D₀) C (.ok .next) { s with heap := h', toks := tk }) :
    wpAny (model prog w) A (eval iter env) (fun x s₁ => wpAny (model prog w) A (pyIter x) (fun it s₂ => wpAny (model prog w) A (newList []) (fun acc s₃ =>
      wpAny (model prog w) A (newFunctionEnv scope env.globals cl [] env.qual none .none (some env)) (fun cenv s₄ =>
        codeAny (model prog w) A (.compStart (.ListComp elt [⟨tgt, iter, ifs, 0⟩] scope pos) 0 it acc { cenv with scope := relabel scope env }) (RR acc cenv.locals) s₄) E s₃) E s₂) E s₁) E s := by
  refine wpAny_mono (hit s E F) (fun x s₁ h₁ => wpAny_mono h₁ (fun it s₂ ⟨I, fp, wr, P, St, J⟩ => ?_) fun _ _ x => x) fun _ _ x => x
  obtain ⟨rfl, W, st, onFp, onWr, rp, kp, own, sz, live⟩ := J
  refine wpAny_newObj_type (newCenv fun h₄ n₄ ok₄ sub₄ env' he hl => ?_) (by show 0 ≤ sizeLine; exact Nat.zero_le _)
  obtain ⟨h₂, tk₂, rfl, k₂⟩ := id kp
  dsimp only at *
  rw [he, hl]
  generalize hD : h₂.objs.size = D₀ at *
  generalize hC : (h₂.push { cls := Value.type "list", dict := none, data := Data.seq ([] : List Value).toArray }).objs.size = C at *
  have hCD : C = D₀ + 1 := by rw [← hC, Heap.size_push, hD]
  have hDC : D₀ ≠ C := by omega
  have lt2 : ∀ b o, h₂.get? b = some o → b < D₀ := fun b o e => hD ▸ Heap.lt_size e
  have sub24 : Sub h₂ h₄ := fun b o e => sub₄ b o (Heap.get?_push_of_some _ e)
  have hD4 : h₄.PlainList D₀ ([] : List Value).toArray := ⟨0, sub₄ _ _ (hD ▸ Heap.get?_push_size _ rfl)⟩
  have nD2 : h₂.get? D₀ = none := by cases q : h₂.get? D₀ with | none => rfl | some o => exact absurd (lt2 _ _ q) (Nat.lt_irrefl _)
  have nC2 : h₂.get? C = none := by cases q : h₂.get? C with | none => rfl | some o => exact absurd (Nat.lt_trans (lt2 _ _ q) (by omega)) (Nat.lt_irrefl _)
  have nD : s.heap.get? D₀ = none := by cases q : s.heap.get? D₀ with | none => rfl | some o => rw [k₂ _ _ q] at nD2; cases nD2
  have nC : s.heap.get? C = none := by cases q : s.heap.get? C with | none => rfl | some o => rw [k₂ _ _ q] at nC2; cases nC2
  have live2 : ∀ b ∈ wr, ∃ o, h₂.get? b = some o := fun b hb => live _ _ st b (W.sub b hb)
  have F₂ : Frm B₀ env (wr ++ mu) ρ h₂ := F.hide kp onWr live2
  have Fc : Frm B₀ (cenvOf scope cl env C) (muC C D₀ scope (wr ++ mu)) ρf h₄ := F₂.comp sub24 (fun b o e => Nat.lt_trans (lt2 b o e) (by omega)) nD2 (let ⟨n, e⟩ := hD4; ⟨_, e⟩) n₄ ok₄ hkind hsub hf
  have memEq : ∀ b, b ∈ muC C D₀ scope (wr ++ mu) ↔ b ∈ wr ++ muC C D₀ scope mu := fun b => by simp only [List.mem_cons, List.mem_append]; constructor <;> (intro h; rcases h with h | h | h | h | h <;> simp [h])
  have Fl := Fc.eqv memEq
  have ownLt : ∀ y c, (y, c) ∈ ownCells C scope → h₂.get? c = none := fun y c hm => by
    cases q : h₂.get? c with
    | none => rfl
    | some o => exact absurd (Nat.lt_of_lt_of_le (Nat.lt_trans (lt2 _ _ q) (by omega : D₀ < C)) (Nat.le_of_succ_le (ok₄.empty y c hm).2)) (Nat.lt_irrefl _)
  have fpMU : ∀ b ∈ fp, b ∉ muC C D₀ scope mu := fun b hb hm => by
    obtain ⟨n, o, e⟩ := onFp b hb
    rcases List.mem_cons.mp hm with q | hm
    · rw [q, nC2] at e; cases e
    · rcases List.mem_cons.mp hm with q | hm
      · rw [q, nD2] at e; cases e
      · rcases List.mem_append.mp hm with hm | hm
        · obtain ⟨p, hp, q⟩ := List.mem_map.mp hm
          rw [← q, ownLt p.1 p.2 hp] at e; cases e
        · exact n hm
  let own' : List Addr := C :: D₀ :: (ownCells C scope).map (·.2)
  have ownMU : ∀ b ∈ own', b ∈ muC C D₀ scope mu := fun b hb => by
    rcases List.mem_cons.mp hb with q | hb
    · exact q ▸ .head _
    · rcases List.mem_cons.mp hb with q | hb
      · exact q ▸ .tail _ (.head _)
      · exact .tail _ (.tail _ (List.mem_append_left _ hb))
  have ownFresh : ∀ b ∈ own', s.heap.get? b = none := fun b hb => by
    rcases List.mem_cons.mp hb with q | hb
    · exact q ▸ nC
    · rcases List.mem_cons.mp hb with q | hb
      · exact q ▸ nD
      · obtain ⟨p, hp, q⟩ := List.mem_map.mp hb
        cases q' : s.heap.get? b with
        | none => rfl
        | some o => have := k₂ _ _ q'; rw [← q, ownLt p.1 p.2 hp] at this; cases this
  have wrB : ∀ b ∈ wr, B₀.get? b = none := fun b hb => by cases q : B₀.get? b with | none => rfl | some o => have := onWr b hb; rw [F.g _ _ q] at this; cases this
  have wf := Fl.wf
  have cellMU : ∀ n c, (cenvOf scope cl env C).cells.lookup n = some c → c ∈ muC C D₀ scope mu := fun n c e => by
    have q : (ownCells C scope ++ cl).lookup n = some c := e
    rw [List.lookup_append] at q
    cases z : (ownCells C scope).lookup n with
    | some c' => rw [z] at q; cases q; exact .tail _ (.tail _ (List.mem_append_left _ (List.mem_map.mpr ⟨(n, c), lookup_mem z, rfl⟩)))
    | none => rw [z] at q; exact .tail _ (.tail _ (List.mem_append_right _ (F.wf.cel n c (hsub n c q)).1))
  have asideD : ∀ MU', (∀ b, b ∈ muC C D₀ scope mu → b ∈ MU') → Aside B₀ (cenvOf scope cl env C) MU' D₀ := fun MU' hM => by
    have nDB : B₀.get? D₀ = none := by cases q : B₀.get? D₀ with | none => rfl | some o => rw [F.g _ _ q] at nD; cases nD
    refine ⟨hM _ (.tail _ (.head _)), nDB, hDC, fun n c e q => ?_⟩
    have q2 : (ownCells C scope ++ cl).lookup n = some c := e
    rw [List.lookup_append] at q2
    cases z : (ownCells C scope).lookup n with
    | some c' => rw [z] at q2; cases q2; have := (ok₄.empty n c (lookup_mem z)).2; rw [q] at this; omega
    | none => rw [z] at q2; obtain ⟨o, eo⟩ := F.low c (F.wf.cel n c (hsub n c q2)).1; rw [q, nD] at eo; cases eo
  have loop : codeAny (model prog w) A (.compLoop (.ListComp elt [⟨tgt, iter, ifs, 0⟩] scope pos) 0 (.ref I) (.ref D₀) (cenvOf scope cl env C)) (RR (.ref D₀) C) { s with heap := h₄, toks := tk₂ } := by
    refine loop_gen (turn_L1 ..) rfl (under_comp rfl) (LInv B₀ (cenvOf scope cl env C) (muC C D₀ scope mu) own' ρf D₀ wr ds St (fun d => if p d then [f d] else []) [] { s with heap := h₄, toks := tk₂ }) (fun n s' E' hI => ?_) (ds.length + 1)
      ⟨0, h₄, tk₂, rfl, Nat.zero_le _, rfl, W.frame _ _ _ st fun b _ o e => sub24 b o e, Fl, ⟨[], hD4, .nil⟩, SubB.refl _ _⟩
    refine loop_turn (run := run1 prog w A tgt ifs (emitL elt (.ref D₀) (cenvOf scope cl env C)) (cenvOf scope cl env C)) (tgt := tgt) (R := RR (.ref D₀) C) W fpMU ownMU wrB (.tail _ (.head _)) (.head _) cellMU (fun i v hi Pv => ?_) (fun i s Q E v st h => own i s Q E tgt v st h) live ?_ (fun d hd => ?_) (fun h' tk' F' ac sb => ?_) n s' E' hI
    · obtain ⟨d, ed, rd⟩ := rp i v hi Pv
      refine ⟨d, ed, rd.mono fun b o e => ?_⟩
      obtain ⟨n1, e1⟩ := hid_get e
      refine hid_of (fun hm => ?_) (sub24 _ _ e1)
      rcases List.mem_append.mp hm with hm | hm
      · exact n1 (List.mem_append_left _ hm)
      · rcases List.mem_cons.mp hm with q | hm
        · rw [q, nC2] at e1; cases e1
        · rcases List.mem_cons.mp hm with q | hm
          · rw [q, nD2] at e1; cases e1
          · rcases List.mem_append.mp hm with hm | hm
            · obtain ⟨p, hp, q⟩ := List.mem_map.mp hm
              rw [← q, ownLt p.1 p.2 hp] at e1; cases e1
            · exact n1 (List.mem_append_right _ hm)
    · rw [List.nil_append]
      exact Nat.le_trans (opt_len ds) sz
    · obtain ⟨md, hA, hm⟩ := hT C d hd
      refine stepL1 hh hA (fun b hb => ?_) (fun hb => ?_) (hts C _ d hd) (hel C _ d hd) (hdis d) (asideD _ fun b hb => List.mem_append_right _ hb) (.tail _ (.head _))
      · rcases hm b hb with q | q
        · exact q ▸ .head _
        · exact .tail _ (.tail _ q)
      · rcases hm D₀ hb with q | q
        · exact hDC q
        · obtain ⟨p, hp, q⟩ := List.mem_map.mp q
          have := (ok₄.empty p.1 p.2 hp).2; rw [q] at this; omega
    · obtain ⟨vs, pl, rs⟩ := ac
      have kept : Sub s.heap h' := fun b o e => by
        refine sb b o (fun hm => ?_) (sub24 _ _ (k₂ _ _ e))
        rcases List.mem_append.mp hm with hm | hm
        · rw [onWr b hm] at e; cases e
        · rw [ownFresh b hm] at e; cases e
      have eq : ([] ++ ds.flatMap fun d => if p d = true then [f d] else []) = (ds.filter p).map f := by
        rw [List.nil_append]; exact opt_eq ds
      rw [eq] at rs
      have hcell : ∀ b, b ∈ C :: mu → b ∈ muC C D₀ scope mu := fun b hb => by
        rcases List.mem_cons.mp hb with q | hb
        · exact q ▸ .head _
        · exact .tail _ (.tail _ (List.mem_append_right _ hb))
      refine hRR D₀ C h' tk' nD nC hDC F'.ns (.lst ?_ (rs.mono (hid_eqv hcell))) kept
      obtain ⟨n, e⟩ := pl
      refine ⟨n, hid_of (fun hm => ?_) e⟩
      rcases List.mem_cons.mp hm with q | hm
      · exact hDC q
      · obtain ⟨o, eo⟩ := F.low _ hm; rw [nD] at eo; cases eo
  exact codeAny_compStart_list loop (W.self 0 _ _ _ (W.frame _ _ _ st fun b _ o e => sub24 b o e) loop)
end
end Mine
end
end
section
set_option Elab.async false
noncomputable section
open PySem PySem.W PySem.Calls PyProof.Rows
set_option maxRecDepth 100000
set_option linter.unusedVariables false
namespace Mine
section
variable {prog : Program} {w : World} {B₀ : Heap} {A : Around} {env : Env} {mu : List Addr} {ρ : List (Str × D)} {scope : Scope} {cl : List (Str × Addr)}
/-- what a comprehension's text must show -/
structure CompOk (env : Env) (scope : Scope) (cl : List (Str × Addr)) (iter : Expr) : Prop where
  fs : ∀ x, foldedSetIterable iter env x = pure x
  clos : closureFor scope env = pure cl
  sub : ∀ y c, cl.lookup y = some c → env.cells.lookup y = some c
  kind : scope.kind = .function
  names : ∀ x ∈ scope.names, x.2 = .local → scope.names.lookup x.1 = some .local
theorem comp_end {C D₀ : Addr} {s : Shared} {h' h'' : Heap} {tk : Nat} {ds : List D} (hs : Heap.SameBut C h' h'') (nC : s.heap.get? C = none) (r : Rp (Hid (C :: mu) h') (.ref D₀) (.lst ds)) (k : Sub s.heap h') :
    Rp (Hid mu h'') (.ref D₀) (.lst ds) ∧ Kp s { s with heap := h'', toks := tk } := by
  refine ⟨r.mono fun b o e => ?_, Kp.mk fun b o e => sameBut_get hs (fun q => by rw [q, nC] at e; cases e) (k b o e)⟩
  obtain ⟨n, e1⟩ := hid_get e
  exact hid_of (fun hm => n (.tail _ hm)) (sameBut_get hs (fun q => n (q ▸ .head _)) e1)
theorem Ev.comp1 {tgt iter elt : Expr} {ifs : List Expr} {pos : Pos} {ds : List D} {ρf : List (Str × D)} {p : D → Bool} {f : D → D} {bs : D → List (Str × D)}
    (hh : A.handled = none) (ok : CompOk env scope cl iter) (hit : It prog w B₀ A env mu ρ iter ds) (hf : FreeOk env ρ scope cl ρf)
    (hT : ∀ C d, d ∈ ds → ∃ md, AsT prog w B₀ (cenvOf scope cl env C) tgt d (bs d) md ∧ ∀ b ∈ md, b = C ∨ b ∈ (ownCells C scope).map (·.2))
    (hdis : ∀ d y e, ρf.lookup y = some e → (bs d ++ ρf).lookup y = some e)
    (hts : ∀ C MU d, d ∈ ds → Tss prog w B₀ A (cenvOf scope cl env C) MU (bs d ++ ρf) ifs (p d)) (hel : ∀ C MU d, d ∈ ds → p d = true → Ev prog w B₀ A (cenvOf scope cl env C) MU (bs d ++ ρf) elt (f d)) :
    Ev prog w B₀ A env mu ρ (.ListComp elt [⟨tgt, iter, ifs, 0⟩] scope pos) (.lst ((ds.filter p).map f)) := fun s E F => by
  rw [eval_ListComp]
  refine wpAny_comprehension_free (use := none) rfl ok.fs ok.clos ok.kind ok.names ?_
  exact compL1 hh F hit ok.sub ok.kind hf hT hdis hts hel fun D₀ C h' tk nD nC hDC ⟨m, n⟩ r k => ⟨m, n, fun h'' hs => comp_end hs nC r k⟩
-- statements
/-- a statement that stores at x -/
theorem comp_store {tgt iter elt : Expr} {ifs : List Expr} {pos spos py : Pos} {y : Str} {ds : List D} {ρf : List (Str × D)} {p : D → Bool} {f : D → D} {bs : D → List (Str × D)} {a : Addr} {s : Shared} {E : Value → Shared → Prop} {Q : Flow → Shared → Prop}
    (hh : A.handled = none) (F : Frm B₀ env mu ρ s.heap) (S : SlotOf env y a) (hsw : swapsWith (.ListComp elt [⟨tgt, iter, ifs, 0⟩] scope pos) (some (.Name y py)) spos.line env = pure true) (ok : CompOk env scope cl iter) (hit : It prog w B₀ A env mu ρ iter ds) (hf : FreeOk env ρ scope cl ρf)
    (hT : ∀ C d, d ∈ ds → ∃ md, AsT prog w B₀ (cenvOf scope cl env C) tgt d (bs d) md ∧ ∀ b ∈ md, b = C ∨ b ∈ (ownCells C scope).map (·.2))
    (hdis : ∀ d y e, ρf.lookup y = some e → (bs d ++ ρf).lookup y = some e)
    (hts : ∀ C MU d, d ∈ ds → Tss prog w B₀ A (cenvOf scope cl env C) MU (bs d ++ ρf) ifs (p d)) (hel : ∀ C MU d, d ∈ ds → p d = true → Ev prog w B₀ A (cenvOf scope cl env C) MU (bs d ++ ρf) elt (f d))
    (hQ : ∀ h' tk, Frm B₀ env mu ((y, .lst ((ds.filter p).map f)) :: ρ) h' → SubB [a] s.heap h' → Q .next { s with heap := h', toks := tk }) :
    wpAny (model prog w) A (exec (.Assign [.Name y py] (.ListComp elt [⟨tgt, iter, ifs, 0⟩] scope pos) spos) env) Q E s := by
  rw [exec_Assign_Name_used _ _ _ _ hsw]
  refine wpAny_bind (wpAny_standAt (wpAny_bind ?_))
  show wpAny _ A (do let _ ← comprehension (.ListComp elt [⟨tgt, iter, ifs, 0⟩] scope pos) scope env _ (newList []) false (eval iter env) (some (assign (.Name y py) env))) _ _ s
  refine wpAny_bind (wpAny_mono (wpAny_comprehension_free (use := some (assign (.Name y py) env)) (Q := fun _ s' => Q .next s') rfl ok.fs ok.clos ok.kind ok.names
    (compL1 hh F hit ok.sub ok.kind hf hT hdis hts hel fun D₀ C h' tk nD nC hDC ⟨m, n⟩ r k => ?_)) (fun _ s' hq => wpAny_pure (wpAny_pure hq)) fun _ _ e => e)
  show wpAny _ A (assign (.Name y py) env (.ref D₀)) _ _ _
  have haC : a ≠ C := fun q => by
    obtain ⟨o, eo⟩ := F.low a (S.mem F.wf).1
    rw [q, nC] at eo; cases eo
  have F' : Frm B₀ env (C :: mu) ρ h' := by
    obtain ⟨o, _, _, eo, _⟩ := id n
    have := F.hide (ws := [C]) (s' := { s with heap := h', toks := tk }) (Kp.mk k) (fun b hb => by rw [List.mem_singleton] at hb; subst hb; exact nC) fun b hb => by rw [List.mem_singleton] at hb; subst hb; exact ⟨o, eo⟩
    exact this
  refine assign_name (s := { s with heap := h', toks := tk }) F' S r fun h₂ tk₂ F₂ hs₂ _ => ?_
  refine ⟨m, n.sameBut hs₂ (Ne.symm haC), fun h₃ hs₃ => ?_⟩
  refine hQ h₃ tk₂ ?_ fun b o nb e => sameBut_get hs₃ (fun q => by rw [q, nC] at e; cases e) (sameBut_get hs₂ (by simpa using nb) (k b o e))
  refine Frm.drop (ws := [C]) F₂ (fun b o nb e => sameBut_get hs₃ (by simpa using nb) e) F.wf.loc.1 (fun n c e => (F.wf.cel n c e).1) fun b hb => ?_
  rw [List.mem_singleton] at hb; subst hb
  refine ⟨fun hm => ?_, ?_⟩
  · obtain ⟨o, eo⟩ := F.low _ hm; rw [nC] at eo; cases eo
  · cases q : B₀.get? b with
    | none => rfl
    | some o => rw [F.g _ _ q] at nC; cases nC
end
end Mine
end
end
section
set_option Elab.async false
noncomputable section
open PySem PySem.W PySem.Calls PyProof.Rows
set_option maxRecDepth 100000
set_option linter.unusedVariables false
namespace Mine
/-- s₁ is s with another heap that keeps all but md, and P of it -/
noncomputable def Res (md : List Addr) (P : Heap → Prop) (s s₁ : Shared) : Prop := ∃ h' tk, s₁ = { s with heap := h', toks := tk } ∧ SubB md s.heap h' ∧ P h'
theorem Res.mono {md md' : List Addr} {P P' : Heap → Prop} {s s₁ : Shared} (r : Res md P s s₁) (hm : ∀ b ∈ md, b ∈ md') (hp : ∀ h, P h → P' h) : Res md' P' s s₁ := let ⟨h, t, e, k, p⟩ := r; ⟨h, t, e, k.mono hm, hp h p⟩
theorem Res.trans {md : List Addr} {P P' : Heap → Prop} {a b c : Shared} (r : Res md P a b) (r' : Res md P' b c) : Res md P' a c := by
  obtain ⟨h, t, rfl, k, p⟩ := r
  obtain ⟨h', t', rfl, k', p'⟩ := r'
  exact ⟨h', t', rfl, k.trans k', p'⟩
theorem Res.kp {md : List Addr} {P : Heap → Prop} {a b c : Shared} (x : Kp a b) (r : Res md P b c) : Res md P a c := by
  obtain ⟨h, t, rfl, k⟩ := x
  obtain ⟨h', t', rfl, k', p'⟩ := r
  exact ⟨h', t', rfl, fun b o n e => k' b o n (k b o e), p'⟩
theorem Res.of {md : List Addr} {P : Heap → Prop} {a b : Shared} (x : Kp a b) (p : P b.heap) : Res md P a b := by
  obtain ⟨h, t, rfl, k⟩ := x
  exact ⟨h, t, rfl, fun b o _ e => k b o e, p⟩
theorem Res.prop {md : List Addr} {P : Heap → Prop} {a b : Shared} (r : Res md P a b) : P b.heap := by obtain ⟨h, t, rfl, k, p⟩ := r; exact p
section
variable {prog : Program} {w : World} {B₀ : Heap} {A : Around} {env : Env} {mu : List Addr} {ρ : List (Str × D)} {scope : Scope} {cl : List (Str × Addr)}
/-- a for loop over ds, by what holds between its turns; P mu h: mu hidden -/
theorem for_gen {tgt iter : Expr} {body : List Stmt} {pos : Pos} {ds : List D} {s : Shared} {E : Value → Shared → Prop} {Q : Flow → Shared → Prop} (J : Nat → List Addr → Heap → Prop) (Jb : List Addr → Heap → Prop) (Jr : Value → List Addr → Heap → Prop) (md : List Addr)
    (F : Frm B₀ env mu ρ s.heap) (hit : It prog w B₀ A env mu ρ iter ds) (hmd : ∀ b ∈ md, b ∈ mu)
    (h0 : ∀ wr s', Kp s s' → (∀ b ∈ wr, s.heap.get? b = none) → (∀ b ∈ wr, ∃ o, s'.heap.get? b = some o) → J 0 (wr ++ mu) s'.heap)
    (hws : ∀ i wr h h', J i (wr ++ mu) h → (∀ b ∈ wr, b ∉ mu ∧ B₀.get? b = none) → SubB wr h h' → (∀ b ∈ wr, ∃ o, h'.get? b = some o) → J i (wr ++ mu) h')
    (hdrop : ∀ wr h h', J ds.length (wr ++ mu) h → (∀ b ∈ wr, b ∉ mu ∧ B₀.get? b = none) → SubB wr h h' → J ds.length mu h')
    (hbody : ∀ i d wr s₁ E v, ds[i]? = some d → (∀ b ∈ wr, b ∉ mu ∧ B₀.get? b = none) → J i (wr ++ mu) s₁.heap → Rp (Hid (wr ++ mu) s₁.heap) v d →
      wpAny (model prog w) A (assign tgt env v) (fun _ s₂ => wpAny (model prog w) A (execs body env) (fun f s₃ => match f with
        | .next | .cont => Res md (J (i + 1) (wr ++ mu)) s₁ s₃
        | .brk => Res md (Jb mu) s₁ s₃
        | .ret v => Res md (Jr v mu) s₁ s₃) E s₂) E s₁)
    (hQ : ∀ s', Res md (fun h => J ds.length mu h ∨ Jb mu h) s s' → Q .next s') (hQr : ∀ v s', Res md (Jr v mu) s s' → Q (.ret v) s')
    (hs : ∀ x, foldedSetIterable iter env x = pure x := by intro _; rfl) :
    wpAny (model prog w) A (exec (.For tgt iter body [] pos) env) Q E s := by
  refine wpAny_For (wpAny_mono (hit s E F) (fun x s₁ h₁ => wpAny_mono h₁ (fun it s₂ ⟨I, fp, wr, P, St, X⟩ => ?_) fun _ _ x => x) fun _ _ x => x) hs
  obtain ⟨rfl, W, st, onFp, onWr, rp, kp, own, sz, live⟩ := X
  have wrB : ∀ b ∈ wr, b ∉ mu ∧ B₀.get? b = none := fun b hb => ⟨(onFp b (W.sub b hb)).1, by cases q : B₀.get? b with | none => rfl | some o => have := onWr b hb; rw [F.g _ _ q] at this; cases this⟩
  have live2 : ∀ b ∈ wr, ∃ o, s₂.heap.get? b = some o := fun b hb => live _ _ st b (W.sub b hb)
  have start := h0 wr s₂ kp onWr live2
  obtain ⟨h₂, tk₂, rfl, k₂⟩ := id kp
  dsimp only at *
  have back : ∀ {P : Heap → Prop} {h tk}, SubB (wr ++ md) h₂ h → P h → Res md P s { s with heap := h, toks := tk } := fun sb p => ⟨_, _, rfl, fun b o n e => sb b o (fun hm => by
    rcases List.mem_append.mp hm with q | q
    · rw [onWr b q] at e; cases e
    · exact n q) (k₂ b o e), p⟩
  refine codeAny_forLoop_any (fun k s' => ∃ i h tk, k = ds.length + 1 - i ∧ i ≤ ds.length ∧ s' = { s with heap := h, toks := tk } ∧ St i h ∧ J i (wr ++ mu) h ∧ SubB (wr ++ md) h₂ h) ?_ (ds.length + 1) ⟨0, h₂, tk₂, rfl, Nat.zero_le _, rfl, st, start, SubB.refl _ _⟩
  rintro k s' ⟨i, h, tk, rfl, hi, rfl, st', Ji, sb⟩
  rcases Nat.lt_or_ge i ds.length with hlt | hge
  · refine W.item i _ _ _ hlt st' fun v h₁ tk₁ Pv st₁ k₁ => ?_
    obtain ⟨d, ed, rd⟩ := rp i v hlt Pv
    have kb : SubB wr h h₁ := fun b o n e => k₁ b o n e
    have sb₁ : SubB (wr ++ md) h₂ h₁ := sb.trans (kb.mono fun b hb => List.mem_append_left _ hb)
    have rv : Rp (Hid (wr ++ mu) h₁) v d := rd.mono (sb₁.hid fun b hb => by
      rcases List.mem_append.mp hb with q | q
      · exact List.mem_append_left _ q
      · exact List.mem_append_right _ (hmd b q))
    dsimp only
    refine own _ _ _ _ tgt v st₁ ?_
    refine wpAny_mono (hbody i d wr { s with heap := h₁, toks := tk₁ } _ v ed wrB (hws i wr h h₁ Ji wrB kb fun b hb => live _ _ st₁ b (W.sub b hb)) rv) (fun _ s₂ h₂' => wpAny_mono h₂' (fun f s₃ h₃ => ?_) fun _ _ x => x) fun _ _ x => x
    have goOn : Res md (J (i + 1) (wr ++ mu)) { s with heap := h₁, toks := tk₁ } s₃ → ∃ m, m < ds.length + 1 - i ∧ ∃ i h tk, m = ds.length + 1 - i ∧ i ≤ ds.length ∧ s₃ = { s with heap := h, toks := tk } ∧ St i h ∧ J i (wr ++ mu) h ∧ SubB (wr ++ md) h₂ h := fun ⟨h₃, tk₃, e₃, k₃, p₃⟩ =>
      ⟨ds.length + 1 - (i + 1), by omega, i + 1, h₃, tk₃, rfl, hlt, e₃, W.frame _ _ _ st₁ fun b hb o e => k₃ b o (fun hm => (onFp b hb).1 (hmd b hm)) e, p₃, sb₁.trans (k₃.mono fun b hb => List.mem_append_right _ hb)⟩
    cases f with
    | next => exact goOn h₃
    | cont => exact goOn h₃
    | brk =>
      obtain ⟨h₃, tk₃, rfl, k₃, p₃⟩ := h₃
      exact hQ _ (back (sb₁.trans (k₃.mono fun b hb => List.mem_append_right _ hb)) (.inr p₃))
    | ret v =>
      obtain ⟨h₃, tk₃, rfl, k₃, p₃⟩ := h₃
      exact hQr v _ (back (sb₁.trans (k₃.mono fun b hb => List.mem_append_right _ hb)) p₃)
  · have hi' : i = ds.length := Nat.le_antisymm hi hge
    subst hi'
    refine W.done _ _ _ st' fun h₁ tk₁ k₁ => ?_
    have kb : SubB wr h h₁ := fun b o n e => k₁ b o n e
    refine wpAny_pure ?_
    exact hQ _ (back (sb.trans (kb.mono fun b hb => List.mem_append_left _ hb)) (.inl (hdrop wr h h₁ Ji wrB kb)))
end
end Mine
end
end
section
set_option Elab.async false
noncomputable section
open PySem PySem.W PySem.Calls PyProof.Rows
set_option maxRecDepth 100000
set_option linter.unusedVariables false
namespace Mine
section
variable {prog : Program} {w : World} {B₀ : Heap} {A : Around} {env : Env} {mu : List Addr} {ρ : List (Str × D)}
theorem bindL_skip {k : Str → Option NameKind} {x : Str} : ∀ (binds : List (Str × Value)) (m : Str → Option Value), x ∉ binds.map (·.1) → bindL k binds m x = m x
  | [], _, _ => rfl
  | (n, v) :: r, m, h => by
    unfold bindL
    rw [bindL_skip r _ fun q => h (.tail _ q)]
    split
    · have : x ≠ n := fun q => h (q ▸ .head _)
      simp [this]
    · rfl
theorem bindC_skip {k : Str → Option NameKind} {x : Str} : ∀ (binds : List (Str × Value)) (m : Str → Option Value), x ∉ binds.map (·.1) → bindC k binds m x = m x
  | [], _, _ => rfl
  | (n, v) :: r, m, h => by
    unfold bindC
    rw [bindC_skip r _ fun q => h (.tail _ q)]
    split
    · rfl
    · have : x ≠ n := fun q => h (q ▸ .head _)
      simp [this]
theorem bindL_get {k : Str → Option NameKind} {x : Str} {v : Value} (hk : k x = some .local) : ∀ (binds : List (Str × Value)) (m : Str → Option Value), (binds.map (·.1)).Nodup → (x, v) ∈ binds → bindL k binds m x = some v
  | (n, u) :: r, m, hn, hm => by
    rw [List.map_cons, List.nodup_cons] at hn
    unfold bindL
    rcases List.mem_cons.mp hm with e | hm
    · cases e
      rw [bindL_skip r _ hn.1, if_pos hk]; simp
    · exact bindL_get hk r _ hn.2 hm
theorem bindC_get {k : Str → Option NameKind} {x : Str} {v : Value} (hk : k x = some .cell) : ∀ (binds : List (Str × Value)) (m : Str → Option Value), (binds.map (·.1)).Nodup → (x, v) ∈ binds → bindC k binds m x = some v
  | (n, u) :: r, m, hn, hm => by
    rw [List.map_cons, List.nodup_cons] at hn
    unfold bindC
    rcases List.mem_cons.mp hm with e | hm
    · cases e
      rw [bindC_skip r _ hn.1, if_neg (by rw [hk]; decide)]; simp
    · exact bindC_get hk r _ hn.2 hm
theorem zip_get {h : Heap} {x : Str} {d : D} : ∀ {names : List Str} {vs : List Value} {ds : List D}, Rps h vs ds → (names.zip ds).lookup x = some d → ∃ v, (x, v) ∈ names.zip vs ∧ Rp h v d
  | [], _, _, _, e => by cases e
  | n :: ns, _, _, .nil, e => by cases e
  | n :: ns, _, _, .cons a b, e => by
    rw [List.zip_cons_cons, List.lookup_cons] at e
    cases q : x == n with
    | true => rw [q] at e; cases e; exact ⟨_, by rw [eq_of_beq q]; exact .head _, a⟩
    | false => rw [q] at e; obtain ⟨v, m, r⟩ := zip_get b e; exact ⟨v, .tail _ m, r⟩
/-- a def as the top holds it -/
structure Def (B₀ : Heap) (a : Addr) (fd : FuncData) (body : List Stmt) (names : List Str) : Prop where
  obj : ∃ oc od sl, B₀.get? a = some ⟨oc, od, .func fd, sl⟩
  code : B₀.CodeRec fd.code fd.qualname
  body : fd.body = .stmts body
  clo : fd.closure = []
  gl : fd.globals = mainGlobals
  bl : fd.builtins = builtinsNs
  co : fd.scope.isCoroutine = false
  gen : fd.scope.isGenerator = false
  kind : fd.scope.kind = .function
  nodup : names.Nodup
  kinds : (names.all fun n => fd.scope.names.lookup n == some .local || fd.scope.names.lookup n == some .cell) = true
  cells : ∀ n, ((cellsFrom n fd.scope.names []).map (·.1)).Nodup
/-- a frame's addresses -/
noncomputable def frameAt (fd : FuncData) (L : Addr) : List Addr := L :: (cellsFrom (L + 1) fd.scope.names []).map (·.2)
theorem lookup_of_nodup {l : List (Str × Addr)} (hn : (l.map (·.1)).Nodup) {n : Str} {c : Addr} (h : (n, c) ∈ l) : l.lookup n = some c := by
  induction l with
  | nil => cases h
  | cons p r ih =>
    rw [List.map_cons, List.nodup_cons] at hn
    rw [show p = (p.1, p.2) from rfl, List.lookup_cons]
    rcases List.mem_cons.mp h with e | h
    · subst e; simp
    · have : (n == p.1) = false := by
        cases q : n == p.1 with
        | false => rfl
        | true => exact absurd (List.mem_map.mpr ⟨(n, c), h, eq_of_beq q⟩) hn.1
      rw [this]; exact ih hn.2 h
theorem call_def {mg mb : Str → Option Value} (B : Base B₀ mg mb) {a : Addr} {fd : FuncData} {body : List Stmt} {names : List Str} (X : Def B₀ a fd body names) {vals : List Value} {ds : List D} {s : Shared} {E : Value → Shared → Prop} {Q : Value → Shared → Prop}
    (hroom : A.depth < recursionLimit) (g : Sub B₀ s.heap) (low : Low mu s.heap) (r : Rps (Hid mu s.heap) vals ds) (hlen : vals.length = names.length) (hbind : bindArgs fd ⟨vals, []⟩ = pure (names.zip vals))
    (h : ∀ s₁, Kp s s₁ → Frm B₀ (callEnvC fd s.heap.objs.size a) (frameAt fd s.heap.objs.size ++ mu) (names.zip ds) s₁.heap → ∀ E, wpAny (model prog w) (A.deeper (callEnvC fd s.heap.objs.size a)) (execs body (callEnvC fd s.heap.objs.size a)) (fun f s' => Q (match f with | .ret v => v | _ => .none) s') E s₁) :
    wpAny (model prog w) A (call (.ref a) vals) Q E s := by
  obtain ⟨oc, od, sl, eo⟩ := X.obj
  refine wpAny_call (codeAny_call_cells (binds := names.zip vals) hroom (g _ _ eo) rfl (B.nolimit.keeps g) (let ⟨c, o, vs, t, e1, e2, e3⟩ := X.code; ⟨c, o, vs, t, e1, g _ _ e2, e3⟩) X.body hbind X.clo ?_ (fun s₁ I => ?_) X.co X.gen X.kind)
  · refine kindsX ?_ _
    rw [List.all_eq_true]
    intro y hy
    exact List.all_eq_true.mp X.kinds y.1 (List.of_mem_zip (show (y.1, y.2) ∈ names.zip vals from hy)).1
  · have nL : s.heap.get? s.heap.objs.size = none := by cases q : s.heap.get? s.heap.objs.size with | none => rfl | some o => exact absurd (Heap.lt_size q) (Nat.lt_irrefl _)
    have K : Kp s s₁ := by
      obtain ⟨h', tk, e⟩ := I.toInCall.same
      subst e
      exact Kp.mk I.toInCall.keep
    have fr : ∀ b, s.heap.objs.size ≤ b → s.heap.get? b = none := fun b hb => by cases q : s.heap.get? b with | none => rfl | some o => exact absurd (Nat.lt_of_lt_of_le (Heap.lt_size q) hb) (Nat.lt_irrefl _)
    have base : ∀ b, s.heap.get? b = none → B₀.get? b = none := fun b e => by cases q : B₀.get? b with | none => rfl | some o => rw [g _ _ q] at e; cases e
    have cfresh : ∀ n c, (n, c) ∈ (callEnvC fd s.heap.objs.size a).cells → s.heap.get? c = none := fun n c hm => fr c (Nat.le_of_lt (I.above n c hm))
    have memF : ∀ b ∈ frameAt fd s.heap.objs.size, s.heap.get? b = none := fun b hb => by
      rcases List.mem_cons.mp hb with q | hb
      · exact q ▸ nL
      · obtain ⟨p, hp, q⟩ := List.mem_map.mp hb; exact q ▸ cfresh p.1 p.2 hp
    have zn : (names.zip vals).map (·.1) = names := List.map_fst_zip (Nat.le_of_eq hlen.symm)
    have hid : Sub (Hid mu s.heap) (Hid (frameAt fd s.heap.objs.size ++ mu) s₁.heap) := fun b o e => by
      obtain ⟨n, e1⟩ := hid_get e
      refine hid_of (fun hm => ?_) (K.sub _ _ e1)
      rcases List.mem_append.mp hm with hm | hm
      · rw [memF b hm] at e1; cases e1
      · exact n hm
    refine wpAny_mono (h s₁ K ⟨g.trans K.sub, X.kind, X.gl, X.bl, fun b hb => ?_, ⟨⟨.head _, base _ nL⟩, fun n c e => ?_, fun n n' c e e' => name_of_addr I.apart (lookup_mem e) (lookup_mem e')⟩, ⟨_, I.toInCall.ns⟩, fun n c e => ⟨_, I.cell n c e⟩, fun x d e => ?_⟩ (fun e s' => wpAny (model prog w) (A.deeper (callEnvC fd s.heap.objs.size a)) (leaving (callEnvC fd s.heap.objs.size a) e) (fun _ s'' => E e s'') (fun e' s'' => E e' s'') s')) (fun f s' x => x) fun _ _ x => x
    · rcases List.mem_append.mp hb with hb | hb
      · rcases List.mem_cons.mp hb with q | hb
        · obtain ⟨o, _, _, e, _⟩ := I.toInCall.ns; exact ⟨o, q ▸ e⟩
        · obtain ⟨p, hp, q⟩ := List.mem_map.mp hb
          have hc := lookup_of_nodup (X.cells _) (show (p.1, p.2) ∈ cellsFrom (s.heap.objs.size + 1) fd.scope.names [] from hp)
          obtain ⟨o, eo, _⟩ := I.cell p.1 p.2 hc
          exact ⟨o, q ▸ eo⟩
      · obtain ⟨o, e⟩ := low b hb; exact ⟨o, K.sub _ _ e⟩
    · have hm := lookup_mem e
      exact ⟨List.mem_append_left _ (.tail _ (List.mem_map.mpr ⟨(n, c), hm, rfl⟩)), base _ (cfresh n c hm), Nat.ne_of_gt (I.above n c hm)⟩
    · obtain ⟨v, hm, rv⟩ := zip_get r e
      refine ⟨v, ?_, rv.mono hid⟩
      have hx : x ∈ names := (List.of_mem_zip hm).1
      have hk := List.all_eq_true.mp X.kinds x hx
      rw [Bool.or_eq_true] at hk
      rcases hk with hk | hk
      · have hk' : (callEnvC fd s.heap.objs.size a).kindOf x = some .local := (by simpa using hk : fd.scope.names.lookup x = some .local)
        unfold VarAt; rw [hk']
        exact ⟨_, I.toInCall.ns, bindL_get hk' _ _ (by rw [zn]; exact X.nodup) hm⟩
      · have hk' : (callEnvC fd s.heap.objs.size a).kindOf x = some .cell := (by simpa using hk : fd.scope.names.lookup x = some .cell)
        unfold VarAt; rw [hk']
        have hs := cellsFrom_some (x := x) fd.scope.names (s.heap.objs.size + 1) [] (.inl (by simpa using hk))
        obtain ⟨c, hc⟩ := Option.isSome_iff_exists.mp hs
        have ic := I.cell x c hc
        rw [bindC_get hk' _ _ (by rw [zn]; exact X.nodup) hm] at ic
        exact ⟨c, hc, ic⟩
-- statements
theorem x_next {st : Stmt} {rest : List Stmt} {s : Shared} {E : Value → Shared → Prop} {Q : Flow → Shared → Prop} (h : wpAny (model prog w) A (exec st env) (fun f s' => f = .next ∧ wpAny (model prog w) A (execs rest env) Q E s') E s) : wpAny (model prog w) A (execs (st :: rest) env) Q E s :=
  wpAny_execs_cons (wpAny_mono h (fun f s' ⟨e, x⟩ => by subst e; exact x) fun _ _ x => x)
theorem x_assign {x : Str} {px pos : Pos} {e : Expr} {d : D} {a : Addr} {s : Shared} {E : Value → Shared → Prop} {Q : Flow → Shared → Prop} (F : Frm B₀ env mu ρ s.heap) (he : Ev prog w B₀ A env mu ρ e d) (S : SlotOf env x a)
    (h : ∀ s', Res [a] (fun h => Frm B₀ env mu ((x, d) :: ρ) h) s s' → Q .next s') (hs : swapsWith e (some (.Name x px)) pos.line env = pure false := by rfl) : wpAny (model prog w) A (exec (.Assign [.Name x px] e pos) env) Q E s :=
  wpAny_Assign_Name (wpAny_mono (he s E F) (fun v s₁ ⟨r, K⟩ => store_name (F.keeps K) S r fun h' tk F' hs' _ => h _ (Res.kp K ⟨h', tk, rfl, fun b o n e => sameBut_get hs' (by simpa using n) e, F'⟩)) fun _ _ x => x) hs
theorem x_return {e : Expr} {d : D} {pos : Pos} {s : Shared} {E : Value → Shared → Prop} {Q : Flow → Shared → Prop} (F : Frm B₀ env mu ρ s.heap) (he : Ev prog w B₀ A env mu ρ e d)
    (h : ∀ v s', Rp (Hid mu s'.heap) v d → Kp s s' → Q (.ret v) s') : wpAny (model prog w) A (exec (.Return (some e) pos) env) Q E s := by
  rw [arm_exec_Return]
  exact wpAny_bind (wpAny_standAt (wpAny_bind (wpAny_mono (he s E F) (fun v s' ⟨r, K⟩ => wpAny_pure (h v s' r K)) fun _ _ x => x)))
theorem x_if {t : Expr} {body orelse : List Stmt} {pos : Pos} {b : Bool} {s : Shared} {E : Value → Shared → Prop} {Q : Flow → Shared → Prop} (F : Frm B₀ env mu ρ s.heap) (ht : Ts prog w B₀ A env mu ρ t b)
    (h : ∀ s', Kp s s' → Frm B₀ env mu ρ s'.heap → wpAny (model prog w) A (execs (if b then body else orelse) env) Q E s') : wpAny (model prog w) A (exec (.If t body orelse pos) env) Q E s :=
  wpAny_If (wpAny_mono (ht s E F) (fun c s' ⟨e, K⟩ => by
    subst e
    have := h s' K (F.keeps K)
    cases c with
    | true => exact this
    | false => exact this) fun _ _ x => x)
end
end Mine
end
end
section
set_option Elab.async false
noncomputable section
open PySem PySem.W PySem.Calls PyProof.Rows
set_option maxRecDepth 100000
set_option linter.unusedVariables false
namespace Mine
section
variable {prog : Program} {w : World} {B₀ : Heap} {A : Around} {env : Env} {mu : List Addr} {ρ : List (Str × D)} {scope : Scope} {cl : List (Str × Addr)}
theorem AsT.pair {x y : Str} {p1 p2 pos : Pos} {k : Nat} {d e : D} {a b : Addr} (S : SlotOf env x a) (S' : SlotOf env y b) : AsT prog w B₀ env (.Tuple [.Name x p1, .Name y p2] k pos) (.tup [d, e]) [(y, e), (x, d)] [a, b] := fun A mu ρ s E v Q F r hh h => by
  replace r := rp_tup r; obtain ⟨t, vs, rfl, p, q⟩ := r
  replace q := rps_cons q; obtain ⟨v1, _, rfl, r1, q⟩ := q
  replace q := rps_cons q; obtain ⟨v2, _, rfl, r2, q⟩ := q
  cases q
  obtain ⟨n, eo⟩ := p
  rw [assign_Tuple]
  refine wpAny_bind (wpAny_standAt ?_)
  refine unpack_tuple hh ⟨_, (hid_get eo).2, rfl, n, rfl⟩ rfl rfl fun h' ex => ?_
  have K : Kp s { s with heap := h' } := ⟨h', s.toks, rfl, fun b o e => ex b o (Nat.ne_of_lt (Heap.lt_size e)) e⟩
  have F₁ := F.keeps K
  show wpAny _ A (do holding [v2] (assign (.Name x p1) env v1); assignInOrder [assign (.Name y p2) env] [v2]) Q E { s with heap := h' }
  refine wpAny_bind (wpAny_holding (assign_name F₁ S (r1.mono K.hid) fun h₂ tk₂ F₂ hs₂ _ => ?_))
  show wpAny _ A (do holding [] (assign (.Name y p2) env v2); assignInOrder [] []) Q E _
  have sb₂ : SubB [a] h' h₂ := fun b o n e => sameBut_get hs₂ (by simpa using n) e
  have hid₂ : Sub (Hid mu h') (Hid mu h₂) := sb₂.hid (by simp [(S.mem F.wf).1])
  refine wpAny_bind (wpAny_holding (assign_name (s := { s with heap := h₂, toks := tk₂ }) F₂ S' ((r2.mono K.hid).mono hid₂) fun h₃ tk₃ F₃ hs₃ _ => ?_))
  refine wpAny_pure (h h₃ tk₃ F₃ (fun c o n e => ?_) ?_)
  · simp only [List.mem_cons, List.not_mem_nil, or_false, not_or] at n
    exact sameBut_get hs₃ n.2 (sb₂ c o (by simpa using n.1) (K.sub c o e))
  · intro c hc
    simp only [List.mem_cons, List.not_mem_nil, or_false] at hc
    rcases hc with rfl | rfl
    · exact (S.mem F.wf).1
    · exact (S'.mem F.wf).1
theorem start1 {elt tgt iter tgt' iter' : Expr} {ifs ifs' : List Expr} {pos : Pos} {it acc : Value} {R : Result → Shared → Prop} {s : Shared}
    (h0 : codeAny (model prog w) A (.compLoop (.ListComp elt [⟨tgt, iter, ifs, 0⟩, ⟨tgt', iter', ifs', 0⟩] scope pos) 1 it acc env) R s)
    (h : wpAny (model prog w) A (pyIter it) (fun it' s' => codeAny (model prog w) A (.compLoop (.ListComp elt [⟨tgt, iter, ifs, 0⟩, ⟨tgt', iter', ifs', 0⟩] scope pos) 1 it' acc env) R s') (notedBy (model prog w) A env fun x s' => R (.error x) s') s) :
    codeAny (model prog w) A (.compStart (.ListComp elt [⟨tgt, iter, ifs, 0⟩, ⟨tgt', iter', ifs', 0⟩] scope pos) 1 it acc env) R s := by
  refine codeAny_of_tree ?_
  show wpAny _ _ ((compStart (.ListComp elt [⟨tgt, iter, ifs, 0⟩, ⟨tgt', iter', ifs', 0⟩] scope pos) 1 it acc env).onRaise (fun x => do noteFrame x env; standAt theWindowsPlace)) _ _ s
  refine wpAny_notedAt ?_
  unfold compStart
  show wpAny _ _ (ask >>= _) _ _ s
  refine wpAny_bind (wpAny_askSetting (wpAny_ite ?_))
  split
  · exact wpAny_bind (wpAny_pure (wpAny_pure (And.intro rfl h0)))
  · refine wpAny_bind (wpAny_rule ?_); show wpAny _ _ (standAt iter'.pos >>= _) _ _ s; exact wpAny_bind (wpAny_standAt (wpAny_bind (wpAny_mono h (fun it' s' h' => wpAny_pure (And.intro rfl h')) fun _ _ x => x)))
/-- the inner clause, as one item's worth of the outer one -/
theorem stepL2 {MU own : List Addr} {D₀ : Addr} {tgt iter tgt' iter' elt : Expr} {pos : Pos} {ifs' : List Expr} {d : D} {ds : List D} {p : D → Bool} {f : D → D} {bs : List (Str × D)} {bs' : D → List (Str × D)} {md : List Addr} {md' : D → List Addr} (hh : A.handled = none) (hT : AsT prog w B₀ env tgt d bs md) (hmd : ∀ x ∈ md, x ∈ own) (hmD : D₀ ∉ md)
    (hdis : ∀ y e, ρ.lookup y = some e → (bs ++ ρ).lookup y = some e) (hD : Aside B₀ env MU D₀) (hDo : D₀ ∈ own) (hown : ∀ b ∈ own, b ∈ MU) (hit : It prog w B₀ A env MU (bs ++ ρ) iter' ds)
    (hT' : ∀ d' ∈ ds, AsT prog w B₀ env tgt' d' (bs' d') (md' d')) (hmd' : ∀ d' ∈ ds, ∀ x ∈ md' d', x ∈ own) (hmD' : ∀ d' ∈ ds, D₀ ∉ md' d') (hdis' : ∀ d' y e, (bs ++ ρ).lookup y = some e → (bs' d' ++ (bs ++ ρ)).lookup y = some e)
    (hts : ∀ MU' d', d' ∈ ds → Tss prog w B₀ A env MU' (bs' d' ++ (bs ++ ρ)) ifs' (p d')) (hel : ∀ MU' d', d' ∈ ds → p d' = true → Ev prog w B₀ A env MU' (bs' d' ++ (bs ++ ρ)) elt (f d')) :
    StepL prog w B₀ A env MU own ρ D₀ (run2 prog w A tgt [] (.ListComp elt [⟨tgt, iter, [], 0⟩, ⟨tgt', iter', ifs', 0⟩] scope pos) iter' (.ref D₀) env) d ((ds.filter p).map f) := by
  intro s E v ys Q F ac rv hl hQ
  unfold run2
  refine hT A MU ρ s E v _ F rv hh fun h' tk F' sb hmu => ?_
  refine wpAny_tests_nil ?_
  rw [if_pos rfl]
  refine wpAny_mono (hit { s with heap := h', toks := tk } E F') (fun x s₁ h₁ => wpAny_mono h₁ (fun it s₂ ⟨I, fp, wr, P, St, J⟩ => ?_) fun _ _ x => x) fun _ _ x => x
  obtain ⟨rfl, W, st, onFp, onWr, rp, kp, ownG, sz, live⟩ := J
  have ac' : Acc D₀ MU ys h' := ac.subB sb hmD hmu
  obtain ⟨h₂, tk₂, rfl, k₂⟩ := id kp
  dsimp only at *
  have live2 : ∀ b ∈ wr, ∃ o, h₂.get? b = some o := fun b hb => live _ _ st b (W.sub b hb)
  have F₂ : Frm B₀ env (wr ++ MU) (bs ++ ρ) h₂ := F'.hide (s := { s with heap := h', toks := tk }) kp onWr live2
  have wrM : ∀ b ∈ wr, b ∉ MU := fun b hb => (onFp b (W.sub b hb)).1
  have wrB : ∀ b ∈ wr, B₀.get? b = none := fun b hb => by cases q : B₀.get? b with | none => rfl | some o => have := onWr b hb; rw [F'.g _ _ q] at this; cases this
  have ac₂ : Acc D₀ (wr ++ MU) ys h₂ := by
    obtain ⟨vs, pl, r⟩ := ac'
    refine ⟨vs, pl.at fun o e => k₂ _ _ e, r.mono fun b o e => ?_⟩
    obtain ⟨n1, e1⟩ := hid_get e
    refine hid_of (fun hm => ?_) (k₂ _ _ e1)
    rcases List.mem_append.mp hm with hm | hm
    · rw [onWr b hm] at e1; cases e1
    · exact n1 hm
  have memA : Aside B₀ env (wr ++ MU) D₀ := ⟨List.mem_append_right _ hD.mem, hD.base, hD.loc, hD.cel⟩
  have loop : codeAny (model prog w) A (.compLoop (.ListComp elt [⟨tgt, iter, [], 0⟩, ⟨tgt', iter', ifs', 0⟩] scope pos) 1 (.ref I) (.ref D₀) env) (fun r s' => match r with | .ok fl => Q s' | .error e => cameBackBy (model prog w) A env E e s') { s with heap := h₂, toks := tk₂ } := by
    refine loop_gen (turn_L2b ..) rfl (under_comp rfl) (LInv B₀ env MU own (bs ++ ρ) D₀ wr ds St (fun d => if p d then [f d] else []) ys { s with heap := h₂, toks := tk₂ }) (fun n s' E' hI => ?_) (ds.length + 1)
      ⟨0, h₂, tk₂, rfl, Nat.zero_le _, rfl, st, F₂, by simpa using ac₂, SubB.refl _ _⟩
    refine loop_turn (run := run1 prog w A tgt' ifs' (emitL elt (.ref D₀) env) env) (tgt := tgt') (R := fun r s' => match r with | .ok fl => Q s' | .error e => cameBackBy (model prog w) A env E e s') W (fun b hb => (onFp b hb).1) hown wrB hD.mem F'.wf.loc.1 (fun n c e => (F'.wf.cel n c e).1) rp (fun i s Q E v st h => ownG i s Q E tgt' v st h) live ?_ (fun d' hd => ?_) (fun h₅ tk₅ F₅ ac₅ sb₅ => ?_) n s' E' hI
    · rw [opt_eq]; exact hl
    · exact stepL1 hh (hT' d' hd) (hmd' d' hd) (hmD' d' hd) (hts _ d' hd) (hel _ d' hd) (hdis' d') memA hDo
    · rw [opt_eq] at ac₅
      refine hQ h₅ tk₅ (F₅.weak hdis) ac₅ fun b o n e => ?_
      refine sb₅ b o (fun hm => ?_) (k₂ _ _ (sb b o (fun q => n (hmd b q)) e))
      rcases List.mem_append.mp hm with hm | hm
      · have e' := sb b o (fun q => n (hmd b q)) e
        rw [onWr b hm] at e'; cases e'
      · exact n hm
  refine wpAny_runOwn ?_
  rw [Around.mark_none]
  exact start1 loop (W.self 0 _ _ _ st loop)
end
end Mine
end
end
section
set_option Elab.async false
noncomputable section
open PySem PySem.W PySem.Calls PyProof.Rows
set_option maxRecDepth 100000
set_option linter.unusedVariables false
namespace Mine
section
variable {prog : Program} {w : World} {B₀ : Heap} {A : Around} {env : Env} {mu : List Addr} {ρ : List (Str × D)} {scope : Scope} {cl : List (Str × Addr)}
/-- the whole of a list comprehension with two clauses -/
theorem compL2 {tgt iter tgt' iter' elt : Expr} {ifs' : List Expr} {pos : Pos} {ds : List D} {ds' : D → List D} {ρf : List (Str × D)} {p : D → D → Bool} {f : D → D → D} {bs : D → List (Str × D)} {bs' : D → D → List (Str × D)} {s : Shared} {E : Value → Shared → Prop} {RR : Value → Addr → Result → Shared → Prop}
    (hh : A.handled = none) (F : Frm B₀ env mu ρ s.heap) (hit : It prog w B₀ A env mu ρ iter ds) (hsub : ∀ y c, cl.lookup y = some c → env.cells.lookup y = some c) (hkind : scope.kind = .function) (hf : FreeOk env ρ scope cl ρf) (hfs' : ∀ C x, foldedSetIterable iter' (cenvOf scope cl env C) x = pure x)
    (hT : ∀ C d, d ∈ ds → ∃ md, AsT prog w B₀ (cenvOf scope cl env C) tgt d (bs d) md ∧ ∀ b ∈ md, b = C ∨ b ∈ (ownCells C scope).map (·.2))
    (hdis : ∀ d y e, ρf.lookup y = some e → (bs d ++ ρf).lookup y = some e)
    (hit' : ∀ C MU d, d ∈ ds → It prog w B₀ A (cenvOf scope cl env C) MU (bs d ++ ρf) iter' (ds' d))
    (hT' : ∀ C d e, d ∈ ds → e ∈ ds' d → ∃ md, AsT prog w B₀ (cenvOf scope cl env C) tgt' e (bs' d e) md ∧ ∀ b ∈ md, b = C ∨ b ∈ (ownCells C scope).map (·.2))
    (hdis' : ∀ d d' y e, (bs d ++ ρf).lookup y = some e → (bs' d d' ++ (bs d ++ ρf)).lookup y = some e)
    (hts : ∀ C MU d e, d ∈ ds → e ∈ ds' d → Tss prog w B₀ A (cenvOf scope cl env C) MU (bs' d e ++ (bs d ++ ρf)) ifs' (p d e)) (hel : ∀ C MU d e, d ∈ ds → e ∈ ds' d → p d e = true → Ev prog w B₀ A (cenvOf scope cl env C) MU (bs' d e ++ (bs d ++ ρf)) elt (f d e))
    (hszT : (ds.flatMap fun d => ((ds' d).filter (p d)).map (f d)).length ≤ sizeLine)
    (hRR : ∀ D₀ C h' tk, s.heap.get? D₀ = none → s.heap.get? C = none → D₀ ≠ C → (∃ m, h'.Ns C m) → Rp (Hid (C :: mu) h') (.ref D₀) (.lst (ds.flatMap fun d => ((ds' d).filter (p d)).map (f d))) → Sub s.heap h' → RR (.ref D₀) C (.ok .next) { s with heap := h', toks := tk }) :
    wpAny (model prog w) A (eval iter env) (fun x s₁ => wpAny (model prog w) A (pyIter x) (fun it s₂ => wpAny (model prog w) A (newList []) (fun acc s₃ =>
      wpAny (model prog w) A (newFunctionEnv scope env.globals cl [] env.qual none .none (some env)) (fun cenv s₄ =>
        codeAny (model prog w) A (.compStart (.ListComp elt [⟨tgt, iter, [], 0⟩, ⟨tgt', iter', ifs', 0⟩] scope pos) 0 it acc { cenv with scope := relabel scope env }) (RR acc cenv.locals) s₄) E s₃) E s₂) E s₁) E s := by
  refine wpAny_mono (hit s E F) (fun x s₁ h₁ => wpAny_mono h₁ (fun it s₂ ⟨I, fp, wr, P, St, J⟩ => ?_) fun _ _ x => x) fun _ _ x => x
  obtain ⟨rfl, W, st, onFp, onWr, rp, kp, own, sz, live⟩ := J
  refine wpAny_newObj_type (newCenv fun h₄ n₄ ok₄ sub₄ env' he hl => ?_) (by show 0 ≤ sizeLine; exact Nat.zero_le _)
  obtain ⟨h₂, tk₂, rfl, k₂⟩ := id kp
  dsimp only at *
  rw [he, hl]
  generalize hD : h₂.objs.size = D₀ at *
  generalize hC : (h₂.push { cls := Value.type "list", dict := none, data := Data.seq ([] : List Value).toArray }).objs.size = C at *
  have hCD : C = D₀ + 1 := by rw [← hC, Heap.size_push, hD]
  have hDC : D₀ ≠ C := by omega
  have lt2 : ∀ b o, h₂.get? b = some o → b < D₀ := fun b o e => hD ▸ Heap.lt_size e
  have sub24 : Sub h₂ h₄ := fun b o e => sub₄ b o (Heap.get?_push_of_some _ e)
  have hD4 : h₄.PlainList D₀ ([] : List Value).toArray := ⟨0, sub₄ _ _ (hD ▸ Heap.get?_push_size _ rfl)⟩
  have nD2 : h₂.get? D₀ = none := by cases q : h₂.get? D₀ with | none => rfl | some o => exact absurd (lt2 _ _ q) (Nat.lt_irrefl _)
  have nC2 : h₂.get? C = none := by cases q : h₂.get? C with | none => rfl | some o => exact absurd (Nat.lt_trans (lt2 _ _ q) (by omega)) (Nat.lt_irrefl _)
  have nD : s.heap.get? D₀ = none := by cases q : s.heap.get? D₀ with | none => rfl | some o => rw [k₂ _ _ q] at nD2; cases nD2
  have nC : s.heap.get? C = none := by cases q : s.heap.get? C with | none => rfl | some o => rw [k₂ _ _ q] at nC2; cases nC2
  have live2 : ∀ b ∈ wr, ∃ o, h₂.get? b = some o := fun b hb => live _ _ st b (W.sub b hb)
  have F₂ : Frm B₀ env (wr ++ mu) ρ h₂ := F.hide kp onWr live2
  have Fc : Frm B₀ (cenvOf scope cl env C) (muC C D₀ scope (wr ++ mu)) ρf h₄ := F₂.comp sub24 (fun b o e => Nat.lt_trans (lt2 b o e) (by omega)) nD2 (let ⟨n, e⟩ := hD4; ⟨_, e⟩) n₄ ok₄ hkind hsub hf
  have memEq : ∀ b, b ∈ muC C D₀ scope (wr ++ mu) ↔ b ∈ wr ++ muC C D₀ scope mu := fun b => by simp only [List.mem_cons, List.mem_append]; constructor <;> (intro h; rcases h with h | h | h | h | h <;> simp [h])
  have Fl := Fc.eqv memEq
  have ownLt : ∀ y c, (y, c) ∈ ownCells C scope → h₂.get? c = none := fun y c hm => by
    cases q : h₂.get? c with
    | none => rfl
    | some o => exact absurd (Nat.lt_of_lt_of_le (Nat.lt_trans (lt2 _ _ q) (by omega : D₀ < C)) (Nat.le_of_succ_le (ok₄.empty y c hm).2)) (Nat.lt_irrefl _)
  have fpMU : ∀ b ∈ fp, b ∉ muC C D₀ scope mu := fun b hb hm => by
    obtain ⟨n, o, e⟩ := onFp b hb
    rcases List.mem_cons.mp hm with q | hm
    · rw [q, nC2] at e; cases e
    · rcases List.mem_cons.mp hm with q | hm
      · rw [q, nD2] at e; cases e
      · rcases List.mem_append.mp hm with hm | hm
        · obtain ⟨p, hp, q⟩ := List.mem_map.mp hm
          rw [← q, ownLt p.1 p.2 hp] at e; cases e
        · exact n hm
  let own' : List Addr := C :: D₀ :: (ownCells C scope).map (·.2)
  have ownMU : ∀ b ∈ own', b ∈ muC C D₀ scope mu := fun b hb => by
    rcases List.mem_cons.mp hb with q | hb
    · exact q ▸ .head _
    · rcases List.mem_cons.mp hb with q | hb
      · exact q ▸ .tail _ (.head _)
      · exact .tail _ (.tail _ (List.mem_append_left _ hb))
  have ownFresh : ∀ b ∈ own', s.heap.get? b = none := fun b hb => by
    rcases List.mem_cons.mp hb with q | hb
    · exact q ▸ nC
    · rcases List.mem_cons.mp hb with q | hb
      · exact q ▸ nD
      · obtain ⟨p, hp, q⟩ := List.mem_map.mp hb
        cases q' : s.heap.get? b with
        | none => rfl
        | some o => have := k₂ _ _ q'; rw [← q, ownLt p.1 p.2 hp] at this; cases this
  have wrB : ∀ b ∈ wr, B₀.get? b = none := fun b hb => by cases q : B₀.get? b with | none => rfl | some o => have := onWr b hb; rw [F.g _ _ q] at this; cases this
  have wf := Fl.wf
  have cellMU : ∀ n c, (cenvOf scope cl env C).cells.lookup n = some c → c ∈ muC C D₀ scope mu := fun n c e => by
    have q : (ownCells C scope ++ cl).lookup n = some c := e
    rw [List.lookup_append] at q
    cases z : (ownCells C scope).lookup n with
    | some c' => rw [z] at q; cases q; exact .tail _ (.tail _ (List.mem_append_left _ (List.mem_map.mpr ⟨(n, c), lookup_mem z, rfl⟩)))
    | none => rw [z] at q; exact .tail _ (.tail _ (List.mem_append_right _ (F.wf.cel n c (hsub n c q)).1))
  have asideD : ∀ MU', (∀ b, b ∈ muC C D₀ scope mu → b ∈ MU') → Aside B₀ (cenvOf scope cl env C) MU' D₀ := fun MU' hM => by
    have nDB : B₀.get? D₀ = none := by cases q : B₀.get? D₀ with | none => rfl | some o => rw [F.g _ _ q] at nD; cases nD
    refine ⟨hM _ (.tail _ (.head _)), nDB, hDC, fun n c e q => ?_⟩
    have q2 : (ownCells C scope ++ cl).lookup n = some c := e
    rw [List.lookup_append] at q2
    cases z : (ownCells C scope).lookup n with
    | some c' => rw [z] at q2; cases q2; have := (ok₄.empty n c (lookup_mem z)).2; rw [q] at this; omega
    | none => rw [z] at q2; obtain ⟨o, eo⟩ := F.low c (F.wf.cel n c (hsub n c q2)).1; rw [q, nD] at eo; cases eo
  have loop : codeAny (model prog w) A (.compLoop (.ListComp elt [⟨tgt, iter, [], 0⟩, ⟨tgt', iter', ifs', 0⟩] scope pos) 0 (.ref I) (.ref D₀) (cenvOf scope cl env C)) (RR (.ref D₀) C) { s with heap := h₄, toks := tk₂ } := by
    refine loop_gen2 (turn_L2a ..) rfl (under_comp rfl) (hfs' C) (LInv B₀ (cenvOf scope cl env C) (muC C D₀ scope mu) own' ρf D₀ wr ds St (fun d => ((ds' d).filter (p d)).map (f d)) [] { s with heap := h₄, toks := tk₂ }) (fun n s' E' hI => ?_) (ds.length + 1)
      ⟨0, h₄, tk₂, rfl, Nat.zero_le _, rfl, W.frame _ _ _ st fun b _ o e => sub24 b o e, Fl, ⟨[], hD4, .nil⟩, SubB.refl _ _⟩
    refine loop_turn (run := run2 prog w A tgt [] (.ListComp elt [⟨tgt, iter, [], 0⟩, ⟨tgt', iter', ifs', 0⟩] scope pos) iter' (.ref D₀) (cenvOf scope cl env C)) (tgt := tgt) (R := RR (.ref D₀) C) W fpMU ownMU wrB (.tail _ (.head _)) (.head _) cellMU (fun i v hi Pv => ?_) (fun i s Q E v st h => own i s Q E tgt v st h) live ?_ (fun d hd => ?_) (fun h' tk' F' ac sb => ?_) n s' E' hI
    · obtain ⟨d, ed, rd⟩ := rp i v hi Pv
      refine ⟨d, ed, rd.mono fun b o e => ?_⟩
      obtain ⟨n1, e1⟩ := hid_get e
      refine hid_of (fun hm => ?_) (sub24 _ _ e1)
      rcases List.mem_append.mp hm with hm | hm
      · exact n1 (List.mem_append_left _ hm)
      · rcases List.mem_cons.mp hm with q | hm
        · rw [q, nC2] at e1; cases e1
        · rcases List.mem_cons.mp hm with q | hm
          · rw [q, nD2] at e1; cases e1
          · rcases List.mem_append.mp hm with hm | hm
            · obtain ⟨p, hp, q⟩ := List.mem_map.mp hm
              rw [← q, ownLt p.1 p.2 hp] at e1; cases e1
            · exact n1 (List.mem_append_right _ hm)
    · rw [List.nil_append]
      exact hszT
    · classical
      obtain ⟨md, hA, hm⟩ := hT C d hd
      have inOwn : ∀ md : List Addr, (∀ b ∈ md, b = C ∨ b ∈ (ownCells C scope).map (·.2)) → (∀ b ∈ md, b ∈ own') ∧ D₀ ∉ md := fun md hm => ⟨fun b hb => by
        rcases hm b hb with q | q
        · exact q ▸ .head _
        · exact .tail _ (.tail _ q), fun hb => by
        rcases hm D₀ hb with q | q
        · exact hDC q
        · obtain ⟨p, hp, q⟩ := List.mem_map.mp q
          have := (ok₄.empty p.1 p.2 hp).2; rw [q] at this; omega⟩
      have pick : ∀ e, e ∈ ds' d → AsT prog w B₀ (cenvOf scope cl env C) tgt' e (bs' d e) (if h : e ∈ ds' d then (hT' C d e hd h).choose else []) := fun e he => by rw [dif_pos he]; exact (hT' C d e hd he).choose_spec.1
      have pick2 : ∀ e, e ∈ ds' d → ∀ b ∈ (if h : e ∈ ds' d then (hT' C d e hd h).choose else []), b = C ∨ b ∈ (ownCells C scope).map (·.2) := fun e he => by rw [dif_pos he]; exact (hT' C d e hd he).choose_spec.2
      exact stepL2 hh hA (inOwn _ hm).1 (inOwn _ hm).2 (hdis d) (asideD _ fun b hb => List.mem_append_right _ hb) (.tail _ (.head _)) (fun b hb => List.mem_append_right _ (ownMU b hb)) (hit' C _ d hd) pick (fun e he => (inOwn _ (pick2 e he)).1) (fun e he => (inOwn _ (pick2 e he)).2) (hdis' d) (fun MU e he => hts C MU d e hd he) (fun MU e he => hel C MU d e hd he)
    · obtain ⟨vs, pl, rs⟩ := ac
      have kept : Sub s.heap h' := fun b o e => by
        refine sb b o (fun hm => ?_) (sub24 _ _ (k₂ _ _ e))
        rcases List.mem_append.mp hm with hm | hm
        · rw [onWr b hm] at e; cases e
        · rw [ownFresh b hm] at e; cases e
      rw [List.nil_append] at rs
      have hcell : ∀ b, b ∈ C :: mu → b ∈ muC C D₀ scope mu := fun b hb => by
        rcases List.mem_cons.mp hb with q | hb
        · exact q ▸ .head _
        · exact .tail _ (.tail _ (List.mem_append_right _ hb))
      refine hRR D₀ C h' tk' nD nC hDC F'.ns (.lst ?_ (rs.mono (hid_eqv hcell))) kept
      obtain ⟨n, e⟩ := pl
      refine ⟨n, hid_of (fun hm => ?_) e⟩
      rcases List.mem_cons.mp hm with q | hm
      · exact hDC q
      · obtain ⟨o, eo⟩ := F.low _ hm; rw [nD] at eo; cases eo
  exact codeAny_compStart_list loop (W.self 0 _ _ _ (W.frame _ _ _ st fun b _ o e => sub24 b o e) loop)
/-- a statement that stores at x -/
theorem comp_store2 {tgt iter tgt' iter' elt : Expr} {ifs' : List Expr} {pos spos py : Pos} {y : Str} {ds : List D} {ds' : D → List D} {ρf : List (Str × D)} {p : D → D → Bool} {f : D → D → D} {bs : D → List (Str × D)} {bs' : D → D → List (Str × D)} {a : Addr} {s : Shared} {E : Value → Shared → Prop} {Q : Flow → Shared → Prop}
    (hh : A.handled = none) (F : Frm B₀ env mu ρ s.heap) (S : SlotOf env y a) (hsw : swapsWith (.ListComp elt [⟨tgt, iter, [], 0⟩, ⟨tgt', iter', ifs', 0⟩] scope pos) (some (.Name y py)) spos.line env = pure true) (ok : CompOk env scope cl iter) (hit : It prog w B₀ A env mu ρ iter ds) (hf : FreeOk env ρ scope cl ρf)
    (hT : ∀ C d, d ∈ ds → ∃ md, AsT prog w B₀ (cenvOf scope cl env C) tgt d (bs d) md ∧ ∀ b ∈ md, b = C ∨ b ∈ (ownCells C scope).map (·.2))
    (hdis : ∀ d y e, ρf.lookup y = some e → (bs d ++ ρf).lookup y = some e)
    (hfs' : ∀ C x, foldedSetIterable iter' (cenvOf scope cl env C) x = pure x) (hit' : ∀ C MU d, d ∈ ds → It prog w B₀ A (cenvOf scope cl env C) MU (bs d ++ ρf) iter' (ds' d))
    (hT' : ∀ C d e, d ∈ ds → e ∈ ds' d → ∃ md, AsT prog w B₀ (cenvOf scope cl env C) tgt' e (bs' d e) md ∧ ∀ b ∈ md, b = C ∨ b ∈ (ownCells C scope).map (·.2))
    (hdis' : ∀ d d' y e, (bs d ++ ρf).lookup y = some e → (bs' d d' ++ (bs d ++ ρf)).lookup y = some e)
    (hts : ∀ C MU d e, d ∈ ds → e ∈ ds' d → Tss prog w B₀ A (cenvOf scope cl env C) MU (bs' d e ++ (bs d ++ ρf)) ifs' (p d e)) (hel : ∀ C MU d e, d ∈ ds → e ∈ ds' d → p d e = true → Ev prog w B₀ A (cenvOf scope cl env C) MU (bs' d e ++ (bs d ++ ρf)) elt (f d e))
    (hszT : (ds.flatMap fun d => ((ds' d).filter (p d)).map (f d)).length ≤ sizeLine)
    (hQ : ∀ h' tk, Frm B₀ env mu ((y, .lst (ds.flatMap fun d => ((ds' d).filter (p d)).map (f d))) :: ρ) h' → SubB [a] s.heap h' → Q .next { s with heap := h', toks := tk }) :
    wpAny (model prog w) A (exec (.Assign [.Name y py] (.ListComp elt [⟨tgt, iter, [], 0⟩, ⟨tgt', iter', ifs', 0⟩] scope pos) spos) env) Q E s := by
  rw [exec_Assign_Name_used _ _ _ _ hsw]
  refine wpAny_bind (wpAny_standAt (wpAny_bind ?_))
  show wpAny _ A (do let _ ← comprehension (.ListComp elt [⟨tgt, iter, [], 0⟩, ⟨tgt', iter', ifs', 0⟩] scope pos) scope env _ (newList []) false (eval iter env) (some (assign (.Name y py) env))) _ _ s
  refine wpAny_bind (wpAny_mono (wpAny_comprehension_free (use := some (assign (.Name y py) env)) (Q := fun _ s' => Q .next s') rfl ok.fs ok.clos ok.kind ok.names
    (compL2 hh F hit ok.sub ok.kind hf hfs' hT hdis hit' hT' hdis' hts hel hszT fun D₀ C h' tk nD nC hDC ⟨m, n⟩ r k => ?_)) (fun _ s' hq => wpAny_pure (wpAny_pure hq)) fun _ _ e => e)
  show wpAny _ A (assign (.Name y py) env (.ref D₀)) _ _ _
  have haC : a ≠ C := fun q => by
    obtain ⟨o, eo⟩ := F.low a (S.mem F.wf).1
    rw [q, nC] at eo; cases eo
  have F' : Frm B₀ env (C :: mu) ρ h' := by
    obtain ⟨o, _, _, eo, _⟩ := id n
    have := F.hide (ws := [C]) (s' := { s with heap := h', toks := tk }) (Kp.mk k) (fun b hb => by rw [List.mem_singleton] at hb; subst hb; exact nC) fun b hb => by rw [List.mem_singleton] at hb; subst hb; exact ⟨o, eo⟩
    exact this
  refine assign_name (s := { s with heap := h', toks := tk }) F' S r fun h₂ tk₂ F₂ hs₂ _ => ?_
  refine ⟨m, n.sameBut hs₂ (Ne.symm haC), fun h₃ hs₃ => ?_⟩
  refine hQ h₃ tk₂ ?_ fun b o nb e => sameBut_get hs₃ (fun q => by rw [q, nC] at e; cases e) (sameBut_get hs₂ (by simpa using nb) (k b o e))
  refine Frm.drop (ws := [C]) F₂ (fun b o nb e => sameBut_get hs₃ (by simpa using nb) e) F.wf.loc.1 (fun n c e => (F.wf.cel n c e).1) fun b hb => ?_
  rw [List.mem_singleton] at hb; subst hb
  refine ⟨fun hm => ?_, ?_⟩
  · obtain ⟨o, eo⟩ := F.low _ hm; rw [nC] at eo; cases eo
  · cases q : B₀.get? b with
    | none => rfl
    | some o => rw [F.g _ _ q] at nC; cases nC
end
end Mine
end
end
section
set_option Elab.async false
noncomputable section
open PySem PySem.W PySem.Calls PyProof.Rows
set_option maxRecDepth 100000
set_option linter.unusedVariables false
namespace Mine
section
variable {prog : Program} {w : World} {B₀ : Heap} {A : Around} {env : Env} {mu : List Addr} {ρ : List (Str × D)} {scope : Scope} {cl : List (Str × Addr)}
/-- a loop that turns the frame's names alone -/
theorem for_frm {tgt iter : Expr} {body : List Stmt} {pos : Pos} {ds : List D} {s : Shared} {E : Value → Shared → Prop} {Q : Flow → Shared → Prop} (R : Nat → List (Str × D)) (md : List Addr)
    (F : Frm B₀ env mu ρ s.heap) (hit : It prog w B₀ A env mu ρ iter ds) (hmd : ∀ b ∈ md, b ∈ mu) (h0 : ∀ x d, (R 0).lookup x = some d → ρ.lookup x = some d)
    (hbody : ∀ i d MU s₁ E v, ds[i]? = some d → (∀ b ∈ mu, b ∈ MU) → Frm B₀ env MU (R i) s₁.heap → Rp (Hid MU s₁.heap) v d →
      wpAny (model prog w) A (assign tgt env v) (fun _ s₂ => wpAny (model prog w) A (execs body env) (fun f s₃ => f = .next ∧ Res md (Frm B₀ env MU (R (i + 1))) s₁ s₃) E s₂) E s₁)
    (hQ : ∀ s', Res md (Frm B₀ env mu (R ds.length)) s s' → Q .next s')
    (hs : ∀ x, foldedSetIterable iter env x = pure x := by intro _; rfl) :
    wpAny (model prog w) A (exec (.For tgt iter body [] pos) env) Q E s := by
  refine for_gen (fun i MU h => Frm B₀ env MU (R i) h) (fun _ _ => False) (fun _ _ _ => False) md F hit hmd (fun wr s' K hw live => (F.hide K hw live).weak h0)
    (fun i wr h h' Fi hw sb live => Fi.ws sb (fun b hb => ⟨List.mem_append_left _ hb, (hw b hb).2, fun q => (hw b hb).1 (q ▸ F.wf.loc.1), fun n c e q => (hw b hb).1 (q ▸ (F.wf.cel n c e).1)⟩) live)
    (fun wr h h' Fi hw sb => Fi.drop sb F.wf.loc.1 (fun n c e => (F.wf.cel n c e).1) hw) (fun i d wr s₁ E v ed hw Fi rv => ?_) (fun s' r => hQ s' (r.mono (fun _ h => h) fun h q => q.elim id False.elim)) (fun v s' r => (r.prop).elim) hs
  refine wpAny_mono (hbody i d (wr ++ mu) s₁ E v ed (fun b hb => List.mem_append_right _ hb) Fi rv) (fun _ s₂ h₂ => wpAny_mono h₂ (fun f s₃ ⟨e, h₃⟩ => by subst e; exact h₃) fun _ _ x => x) fun _ _ x => x
end
/-- a def of the text, as the top makes it -/
noncomputable def fdOf (c : Addr) (pm : Value) : Stmt → FuncData
  | .FunctionDef name args body _ _ _ scope _ _ _ => { name := name, qualname := name, params := args, body := .stmts body, scope := scope, globals := mainGlobals, closure := [], defaults := .none, kwdefaults := .none, doc := .none, pyModule := pm, annotations := none, code := .ref c, closureTuple := .none, builtins := builtinsNs }
  | _ => default
noncomputable def bodyOf : Stmt → List Stmt
  | .FunctionDef _ _ body _ _ _ _ _ _ _ => body
  | _ => []
noncomputable abbrev theProg : Program := PySem.Challenge.rw_qu0060_01.row.prog
noncomputable def topStmt (i : Nat) : Stmt := (PySem.Challenge.pw_qu0060_01.main.body[i]?).getD (.Pass ⟨0, 0, 0, 0⟩)
end Mine
end
end
section
set_option Elab.async false
noncomputable section
open PySem PySem.W PySem.Calls PyProof.Rows
set_option maxRecDepth 100000
set_option linter.unusedVariables false
namespace Mine
theorem lk_refl (ρ : List (Str × D)) : ∀ x d, ρ.lookup x = some d → ρ.lookup x = some d := fun _ _ e => e
theorem lk_cons {a : Str} {da : D} {ρ ρ' : List (Str × D)} (h : ∀ x d, ρ.lookup x = some d → ρ'.lookup x = some d) : ∀ x d, ((a, da) :: ρ).lookup x = some d → ((a, da) :: ρ').lookup x = some d := fun x d e => by
  rw [List.lookup_cons] at e ⊢
  cases q : x == a with
  | true => rw [q] at e; exact e
  | false => rw [q] at e; exact h x d e
theorem lk_skip {k : Str} {dk : D} {ρ ρ' : List (Str × D)} (hk : ρ.lookup k = none) (h : ∀ x d, ρ.lookup x = some d → ρ'.lookup x = some d) : ∀ x d, ρ.lookup x = some d → ((k, dk) :: ρ').lookup x = some d := fun x d e => by
  rw [List.lookup_cons]
  cases q : x == k with
  | true => rw [eq_of_beq q, hk] at e; cases e
  | false => exact h x d e
theorem lk_nil {ρ' : List (Str × D)} : ∀ x d, ([] : List (Str × D)).lookup x = some d → ρ'.lookup x = some d := fun x d e => by cases e
theorem lk_one {a : Str} {da : D} {ρ ρ' : List (Str × D)} (ha : ρ'.lookup a = some da) (h : ∀ x d, ρ.lookup x = some d → ρ'.lookup x = some d) : ∀ x d, ((a, da) :: ρ).lookup x = some d → ρ'.lookup x = some d := fun x d e => by
  rw [List.lookup_cons] at e
  cases q : x == a with
  | true => rw [q] at e; cases e; rw [eq_of_beq q]; exact ha
  | false => rw [q] at e; exact h x d e
theorem dis_one {x : Str} {ρ : List (Str × D)} (h : ρ.lookup x = none) : ∀ (d : D) y e, ρ.lookup y = some e → ([(x, d)] ++ ρ).lookup y = some e := fun d => lk_skip h (lk_refl ρ)
theorem cl_one {n y : Str} {a c : Addr} {l : List (Str × Addr)} (h : l.lookup n = some a) (e : [(n, a)].lookup y = some c) : l.lookup y = some c := by
  rw [List.lookup_cons] at e
  cases q : y == n with
  | true => rw [q] at e; cases e; rw [eq_of_beq q]; exact h
  | false => rw [q] at e; cases e
theorem cl_cons {n y : Str} {a c : Addr} {l r : List (Str × Addr)} (h : l.lookup n = some a) (hr : r.lookup y = some c → l.lookup y = some c) (e : ((n, a) :: r).lookup y = some c) : l.lookup y = some c := by
  rw [List.lookup_cons] at e
  cases q : y == n with
  | true => rw [q] at e; cases e; rw [eq_of_beq q]; exact h
  | false => rw [q] at e; exact hr e
theorem cellsFrom_ge : ∀ (names : List (Str × NameKind)) (n : Nat) (p : Str × Addr), p ∈ cellsFrom n names [] → n ≤ p.2
  | [], _, _, h => by cases h
  | (y, k) :: r, n, p, h => by
    unfold cellsFrom at h
    split at h
    · rw [cellsFrom_acc] at h
      rcases List.mem_append.mp h with h | h
      · exact Nat.le_of_succ_le (cellsFrom_ge r (n + 1) p h)
      · rw [List.mem_singleton] at h; subst h; exact Nat.le_refl _
    · exact cellsFrom_ge r n p h
theorem frame_fresh (fd : FuncData) (h : Heap) : ∀ b ∈ frameAt fd h.objs.size, h.get? b = none := fun b hb => by
  have ge : h.objs.size ≤ b := by
    rcases List.mem_cons.mp hb with q | hb
    · exact Nat.le_of_eq q.symm
    · obtain ⟨p, hp, q⟩ := List.mem_map.mp hb
      exact q ▸ Nat.le_of_succ_le (cellsFrom_ge _ _ p hp)
  cases q : h.get? b with
  | none => rfl
  | some o => exact absurd (Nat.lt_of_lt_of_le (Heap.lt_size q) ge) (Nat.lt_irrefl _)
theorem Res.toKp {md : List Addr} {P : Heap → Prop} {s s₁ s₂ : Shared} (K : Kp s s₁) (r : Res md P s₁ s₂) (hf : ∀ b ∈ md, s.heap.get? b = none) : Kp s s₂ := by
  obtain ⟨h, t, rfl, k⟩ := K
  obtain ⟨h', t', rfl, k', p⟩ := r
  exact ⟨h', t', rfl, fun b o e => k' b o (fun q => by rw [hf b q] at e; cases e) (k b o e)⟩
section
variable {prog : Program} {w : World} {B₀ : Heap} {A : Around} {env : Env} {mu : List Addr} {ρ : List (Str × D)}
theorem Ev.cast {e : Expr} {d d' : D} (h : Ev prog w B₀ A env mu ρ e d) (q : d = d') : Ev prog w B₀ A env mu ρ e d' := q ▸ h
theorem It.cast {e : Expr} {d d' : List D} (h : It prog w B₀ A env mu ρ e d) (q : d = d') : It prog w B₀ A env mu ρ e d' := q ▸ h
theorem mem_frame {fd : FuncData} {L a : Addr} {x : Str} {f : Addr} (S : SlotOf (callEnvC fd L f) x a) : a ∈ frameAt fd L := by
  rcases S with ⟨_, e⟩ | ⟨_, e⟩
  · subst e; exact .head _
  · exact .tail _ (List.mem_map.mpr ⟨(x, a), lookup_mem e, rfl⟩)
end
end Mine
end
end
section
set_option Elab.async false
noncomputable section
open PySem PySem.W PySem.Calls PyProof.Rows
set_option maxRecDepth 100000
set_option linter.unusedVariables false
set_option maxHeartbeats 1000000
namespace Mine
/-- what the top's names and the built-ins give -/
structure Nms (mg mb : Str → Option Value) : Prop where
  len : Glb mg mb "len" (.builtin "len")
  range : Glb mg mb "range" (.type "range")
noncomputable def fdWords : FuncData := fdOf 251 (.str (Str.ofString "law_qu0060_01") 705) (topStmt 22)
noncomputable def strL (l : List Str) : D := .lst (l.map .str)
noncomputable def mostOf (word : Str) : List (Str × Int) := ((("-ab" : Str).cps.toList.map fun c => (⟨#[c]⟩ : Str)).filter fun c => Txt.contains word c).map fun c => (c, Txt.count word c)
noncomputable def mostD (m : List (Str × Int)) : D := .lst (m.map fun p => .tup [.str p.1, .int p.2])
noncomputable def wStep (most : List (Str × Int)) (ws : List Str) : List Str := ws.flatMap fun fr => (most.filter fun m => decide (Txt.count fr m.1 < m.2)).map fun m => fr ++ m.1
noncomputable def wAll (word : Str) : Nat → List Str
  | 0 => [("" : Str)]
  | n + 1 => wStep (mostOf word) (wAll word n)
theorem sz {n : Nat} (h : n ≤ 100000) : n ≤ sizeLine := by unfold sizeLine; omega
theorem most_len (word : Str) : (mostOf word).length ≤ 3 := by
  unfold mostOf
  rw [List.length_map]
  exact Nat.le_trans (List.length_filter_le _ _) (by decide +kernel)
theorem most_one {word : Str} {p : Str × Int} (h : p ∈ mostOf word) : p.1.length = 1 := by
  unfold mostOf at h
  obtain ⟨c, hc, rfl⟩ := List.mem_map.mp h
  obtain ⟨c, _, rfl⟩ := List.mem_map.mp (List.mem_filter.mp hc).1
  rfl
theorem flat_le {α β : Type} {f : α → List β} {k : Nat} : ∀ l : List α, (∀ x ∈ l, (f x).length ≤ k) → (l.flatMap f).length ≤ k * l.length
  | [], _ => Nat.zero_le _
  | x :: l, h => by
    rw [List.flatMap_cons, List.length_append, List.length_cons, Nat.mul_add]
    have := flat_le l fun y hy => h y (.tail _ hy)
    have := h x (.head _)
    omega
theorem wAll_len (word : Str) : ∀ n, (wAll word n).length ≤ 3 ^ n
  | 0 => Nat.le_refl _
  | n + 1 => by
    show (wStep (mostOf word) (wAll word n)).length ≤ _
    unfold wStep
    refine Nat.le_trans (flat_le (k := 3) _ fun x _ => ?_) ?_
    · rw [List.length_map]; exact Nat.le_trans (List.length_filter_le _ _) (most_len word)
    · rw [Nat.pow_succ, Nat.mul_comm]; exact Nat.mul_le_mul_right 3 (wAll_len word n)
theorem wAll_one (word : Str) : ∀ n x, x ∈ wAll word n → x.length = n
  | 0, x, h => by
    have : x = ("" : Str) := by simpa [wAll] using h
    subst this; decide +kernel
  | n + 1, x, h => by
    obtain ⟨fr, hf, hm⟩ := List.mem_flatMap.mp h
    obtain ⟨m, hm', rfl⟩ := List.mem_map.mp hm
    rw [strLen_append, wAll_one word n fr hf, most_one (List.mem_filter.mp hm').1]
noncomputable def wp1 : D → D → Bool := fun d e => match d, e with | .str fr, .tup [.str c, .int n] => decide (Txt.count fr c < n) | _, _ => false
noncomputable def wf1 : D → D → D := fun d e => match d, e with | .str fr, .tup [.str c, .int n] => .str (fr ++ c) | _, _ => .none
theorem w_flat (word : Str) (ws : List Str) : ((ws.map D.str).flatMap fun d => (((mostOf word).map fun p => D.tup [.str p.1, .int p.2]).filter (wp1 d)).map (wf1 d)) = (wStep (mostOf word) ws).map D.str := by
  unfold wStep
  rw [List.flatMap_map, List.map_flatMap]
  congr 1
  funext fr
  rw [List.filter_map, List.map_map, List.map_map]
  rfl
section
variable {w : World} {B₀ : Heap} {mg mb : Str → Option Value} {A : Around} {mu : List Addr}
theorem words_ok (B : Base B₀ mg mb) (N : Nms mg mb) (X : Def B₀ 252 fdWords (bodyOf (topStmt 22)) ["word"]) {word : Str} (hw : word.length ≤ 6) (hh : A.handled = none) (hd : A.depth + 20 < recursionLimit) {s : Shared} {E : Value → Shared → Prop} {vs : List Value}
    (g : Sub B₀ s.heap) (low : Low mu s.heap) (r : Rps (Hid mu s.heap) vs [.str word]) :
    wpAny (model theProg w) A (call (.ref 252) vs) (fun v s' => Rp (Hid mu s'.heap) v (strL (wAll word word.length)) ∧ Kp s s') E s := by
  refine call_def B X (by omega) g low r (by rw [r.length]; rfl) ?_ fun s₁ K F E => ?_
  · replace r := rps_cons r; obtain ⟨_, _, rfl, r1, r2⟩ := r
    (first | obtain ⟨_, rfl⟩ := rp_int r2 | obtain ⟨_, rfl⟩ := rp_str r2 | obtain rfl := rp_raw r2 | obtain rfl := rps_nil r2 | cases r2); rfl
  · show wpAny _ _ (execs (_ :: _) _) _ _ _
    refine x_next ?_
    have hin : ∀ b ∈ frameAt fdWords s.heap.objs.size, b ∈ frameAt fdWords s.heap.objs.size ++ mu := fun b hb => List.mem_append_left _ hb
    have hA : (A.deeper (callEnvC fdWords s.heap.objs.size 252)).handled = none := hh
    generalize hL : s.heap.objs.size = L at *
    refine x_assign (d := mostD (mostOf word)) F ?_ (.inr ⟨rfl, rfl⟩) fun s₂ r₂ => ⟨rfl, ?_⟩
    · refine Ev.cast (Ev.comp1 (cl := [(("word" : Str), L + 1)]) (ρf := [("word", .str word)]) (p := fun d => match d with | .str c => Txt.contains word c | _ => false) (f := fun d => match d with | .str c => .tup [.str c, .int (Txt.count word c)] | _ => .none) (bs := fun d => [("sign", d)]) hA
        ⟨fun x => rfl, rfl, fun y c e => cl_one rfl e, rfl, by decide +kernel⟩ (It.strA hA Ev.cStr (by decide +kernel) (by decide +kernel)) ⟨⟨rfl, rfl, rfl, rfl, rfl⟩, trivial⟩
        (fun C d _ => ⟨[C], AsT.name (.inl ⟨rfl, rfl⟩), by simp⟩) (dis_one rfl) (fun C MU d hd => ?_) (fun C MU d hd _ => ?_)) ?_
      · obtain ⟨c, _, rfl⟩ := List.mem_map.mp hd
        exact Tss.one (Ts.inS (Ev.name rfl) (Ev.name rfl))
      · obtain ⟨c, _, rfl⟩ := List.mem_map.mp hd
        exact Ev.tuple (.cons (Ev.name rfl) rfl (.cons (Ev.count (Ev.name rfl) (Ev.name rfl)) rfl .nil)) (sz (by simp))
      · simp only [mostD, mostOf, List.filter_map, List.map_map]; rfl
    have F₂ := r₂.prop
    refine x_next ?_
    refine x_assign (d := strL [("" : Str)]) F₂ (Ev.list (.cons Ev.cStr rfl .nil) (sz (by simp))) (.inl ⟨rfl, rfl⟩) fun s₃ r₃ => ⟨rfl, ?_⟩
    have F₃ := r₃.prop
    refine x_next ?_
    let R : Nat → List (Str × D) := fun i => [("words", strL (wAll word i)), ("most", mostD (mostOf word)), ("word", .str word)]
    have h3 : ∀ i, i ≤ 6 → 3 ^ i ≤ 729 := fun i hi => Nat.le_trans (Nat.pow_le_pow_right (by omega) hi) (by decide)
    refine for_frm (ds := rng 0 word.length) R (frameAt fdWords L) F₃ ?_ hin (lk_refl _) (fun i d MU s₄ E v ed hM Fi rv => ?_) fun s₅ r₅ => ⟨rfl, ?_⟩
    · exact It.range1 B hA N.range (Ev.lenS B (Ev.name rfl) (by omega) N.len) (by omega) (by omega) (sz (by omega))
    · have hi : i < word.length := by
        have := (List.getElem?_eq_some_iff.mp ed).1
        simpa [rng] using this
      refine assign_name (a := L) Fi (.inl ⟨rfl, rfl⟩) rv fun h₅ tk₅ F₅ hs₅ _ => ?_
      refine x_next ?_
      have hn := wAll_len word i
      have hn' := h3 i (by omega)
      refine comp_store2 (cl := [(("most" : Str), L + 1 + 1)]) (ds := (wAll word i).map .str) (ds' := fun _ => (mostOf word).map fun p => .tup [.str p.1, .int p.2]) (ρf := [("most", mostD (mostOf word))])
        (p := wp1) (f := wf1)
        (bs := fun d => [("front", d)]) (bs' := fun d e => match e with | .tup [a, b] => [("many", b), ("sign", a)] | _ => [])
        hA F₅ (.inl ⟨rfl, rfl⟩) rfl ⟨fun x => rfl, rfl, fun y c e => cl_one rfl e, rfl, by decide +kernel⟩ (It.list hA (Ev.name rfl) (sz (by simp; omega))) ⟨⟨rfl, rfl, rfl, rfl, rfl⟩, trivial⟩
        (fun C d _ => ⟨[C], AsT.name (.inl ⟨rfl, rfl⟩), by simp⟩) (dis_one rfl) (fun C x => rfl) (fun C MU d hd => It.list hA (Ev.name rfl) (sz (by have := most_len word; simp; omega)))
        (fun C d e hd he => ?_) (fun d d' => ?_) (fun C MU d e hd he => ?_) (fun C MU d e hd he hp => ?_) ?_ fun h₆ tk₆ F₆ sb₆ => ⟨rfl, ?_⟩
      · obtain ⟨p, hp, rfl⟩ := List.mem_map.mp he
        exact ⟨[C, C], AsT.pair (.inl ⟨rfl, rfl⟩) (.inl ⟨rfl, rfl⟩), by simp⟩
      · split
        · exact lk_skip rfl (lk_skip rfl (lk_refl _))
        · exact lk_refl _
      · obtain ⟨fr, hfr, rfl⟩ := List.mem_map.mp hd
        obtain ⟨p, hp, rfl⟩ := List.mem_map.mp he
        exact Tss.one (Ts.lt (Ev.count (Ev.name rfl) (Ev.name rfl)) (Ev.name rfl))
      · obtain ⟨fr, hfr, rfl⟩ := List.mem_map.mp hd
        obtain ⟨p, hp', rfl⟩ := List.mem_map.mp he
        exact Ev.cat (Ev.name rfl) (Ev.name rfl) (sz (by rw [wAll_one word i fr hfr, most_one hp']; omega))
      · rw [w_flat, List.length_map]
        have q := wAll_len word (i + 1)
        have q' := h3 (i + 1) (by omega)
        exact sz (by show (wAll word (i + 1)).length ≤ 100000; omega)
      · rw [w_flat] at F₆
        refine wpAny_execs_nil ⟨rfl, h₆, tk₆, rfl, fun b o n e => sb₆ b o (fun q => n ?_) (sameBut_get hs₅ (fun q => n ?_) e), F₆.weak (lk_cons (lk_skip rfl (lk_skip rfl (lk_refl _))))⟩
        · rw [List.mem_singleton] at q; exact q ▸ .head _
        · exact q ▸ .head _
    · have hl : (rng 0 word.length).length = word.length := by simp [rng]
      rw [hl] at r₅
      have F₅ := r₅.prop
      refine wpAny_execs_cons (x_return F₅ (Ev.name rfl) fun v s₆ rv K₆ => ?_)
      have hm : ∀ b ∈ frameAt fdWords L, s.heap.get? b = none := by subst hL; exact frame_fresh fdWords s.heap
      refine ⟨rv.mono (hid_eqv fun b hb => List.mem_append_right _ hb), ?_⟩
      have q2 := r₂.mono (md' := frameAt fdWords L) (fun b hb => by rw [List.mem_singleton] at hb; subst hb; exact mem_frame (x := "most") (f := 252) (.inr ⟨rfl, rfl⟩)) fun _ x => x
      have q3 := r₃.mono (md' := frameAt fdWords L) (fun b hb => by rw [List.mem_singleton] at hb; subst hb; exact .head _) fun _ x => x
      exact (Res.toKp K ((q2.trans q3).trans r₅) hm).trans K₆
end
end Mine
end
end
section
set_option Elab.async false
noncomputable section
open PySem PySem.W PySem.Calls PyProof.Rows
set_option maxRecDepth 100000
set_option linter.unusedVariables false
namespace Mine
/-- a frame with lists of its own: address, items -/
structure FO (B₀ : Heap) (env : Env) (MU : List Addr) (ρ : List (Str × D)) (ω : List (Addr × List D)) (h : Heap) : Prop where
  f : Frm B₀ env MU ρ h
  o : ∀ p ∈ ω, Acc p.1 MU p.2 h ∧ Aside B₀ env MU p.1
  d : ω.Pairwise fun p q => p.1 ≠ q.1
/-- a body's state: s₀ has been kept but for md -/
structure St (B₀ : Heap) (s₀ : Shared) (md : List Addr) (env : Env) (MU : List Addr) (ρ : List (Str × D)) (ω : List (Addr × List D)) (s : Shared) : Prop where
  fo : FO B₀ env MU ρ ω s.heap
  k : KB md s₀ s
  fl : env.locals ∈ md ∨ s₀.heap.get? env.locals = none
  fc : ∀ n c, env.kindOf n = some .cell → env.cells.lookup n = some c → c ∈ md ∨ s₀.heap.get? c = none
  fw : ∀ p ∈ ω, p.1 ∈ md ∨ s₀.heap.get? p.1 = none
theorem KB.more {md ws : List Addr} {a b c : Shared} (x : KB md a b) (y : KB ws b c) (hw : ∀ z ∈ ws, z ∈ md ∨ a.heap.get? z = none) : KB md a c := by
  obtain ⟨h, t, rfl, k⟩ := x
  obtain ⟨h', t', rfl, k'⟩ := y
  refine ⟨h', t', rfl, fun z o n e => k' z o (fun q => ?_) (k z o n e)⟩
  rcases hw z q with q | q
  · exact n q
  · rw [q] at e; cases e
theorem Kp.kb {md : List Addr} {a b : Shared} (x : Kp a b) : KB md a b := by
  obtain ⟨h, t, rfl, k⟩ := x
  exact ⟨h, t, rfl, fun z o _ e => k z o e⟩
theorem KB.kp {a b : Shared} (x : KB [] a b) : Kp a b := by
  obtain ⟨h, t, rfl, k⟩ := x
  exact ⟨h, t, rfl, k.sub⟩
theorem acc_hide {mu ws : List Addr} {a : Addr} {ys : List D} {s s' : Shared} (x : Acc a mu ys s.heap) (K : Kp s s') (hw : ∀ b ∈ ws, s.heap.get? b = none) : Acc a (ws ++ mu) ys s'.heap := by
  obtain ⟨vs, p, r⟩ := x
  refine ⟨vs, p.at fun o e => K.sub _ _ e, r.mono fun b o e => ?_⟩
  obtain ⟨n, e1⟩ := hid_get e
  refine hid_of (fun hm => ?_) (K.sub _ _ e1)
  rcases List.mem_append.mp hm with hm | hm
  · rw [hw b hm] at e1; cases e1
  · exact n hm
/-- what a body may turn -/
noncomputable def ownOf (env : Env) (as : List Addr) : List Addr := env.locals :: (env.cells.filterMap (fun p => if env.kindOf p.1 = some .cell then env.cells.lookup p.1 else none) ++ as)
section
variable {prog : Program} {w : World} {B₀ : Heap} {A : Around} {env : Env} {MU md : List Addr} {ρ : List (Str × D)} {ω : List (Addr × List D)} {s₀ s s' : Shared}
theorem FO.ws {ws : List Addr} {h h' : Heap} (F : FO B₀ env MU ρ ω h) (k : SubB ws h h') (hw : ∀ b ∈ ws, b ∈ MU ∧ B₀.get? b = none ∧ b ≠ env.locals ∧ (∀ n c, env.cells.lookup n = some c → c ≠ b) ∧ ∀ p ∈ ω, p.1 ≠ b) (live : ∀ b ∈ ws, ∃ o, h'.get? b = some o) : FO B₀ env MU ρ ω h' :=
  ⟨F.f.ws k (fun b hb => ⟨(hw b hb).1, (hw b hb).2.1, (hw b hb).2.2.1, (hw b hb).2.2.2.1⟩) live, fun p hp =>
    let ⟨c, s⟩ := F.o p hp
    ⟨c.subB k (fun q => (hw _ q).2.2.2.2 p hp rfl) fun b hb => (hw b hb).1, s⟩, F.d⟩
theorem FO.kp (F : FO B₀ env MU ρ ω s.heap) (K : Kp s s') : FO B₀ env MU ρ ω s'.heap :=
  F.ws (ws := []) (Sub.b K.sub) (fun _ h => (nomatch h)) fun _ h => (nomatch h)
theorem FO.hide {ws : List Addr} (F : FO B₀ env MU ρ ω s.heap) (K : Kp s s') (hw : ∀ b ∈ ws, s.heap.get? b = none) (live : ∀ b ∈ ws, ∃ o, s'.heap.get? b = some o) : FO B₀ env (ws ++ MU) ρ ω s'.heap :=
  ⟨F.f.hide K hw live, fun p hp => let ⟨c, s⟩ := F.o p hp; ⟨acc_hide c K hw, ⟨List.mem_append_right _ s.mem, s.base, s.loc, s.cel⟩⟩, F.d⟩
theorem FO.drop {ws : List Addr} {h h' : Heap} (F : FO B₀ env (ws ++ MU) ρ ω h) (k : SubB ws h h') (hl : env.locals ∈ MU) (hc : ∀ n c, env.cells.lookup n = some c → c ∈ MU) (ho : ∀ p ∈ ω, p.1 ∈ MU) (hw : ∀ b ∈ ws, b ∉ MU ∧ B₀.get? b = none) : FO B₀ env MU ρ ω h' :=
  ⟨F.f.drop k hl hc hw, fun p hp => let ⟨c, s⟩ := F.o p hp; ⟨c.drop k fun q => (hw _ q).1 (ho p hp), ⟨ho p hp, s.base, s.loc, s.cel⟩⟩, F.d⟩
theorem FO.weak {ρ' : List (Str × D)} {h : Heap} (F : FO B₀ env MU ρ ω h) (hr : ∀ x d, ρ'.lookup x = some d → ρ.lookup x = some d) : FO B₀ env MU ρ' ω h := ⟨F.f.weak hr, F.o, F.d⟩
theorem St.f (S : St B₀ s₀ md env MU ρ ω s) : Frm B₀ env MU ρ s.heap := S.fo.f
theorem St.kp (S : St B₀ s₀ md env MU ρ ω s) (K : Kp s s') : St B₀ s₀ md env MU ρ ω s' :=
  ⟨S.fo.kp K, S.k.more K.kb (ws := []) (fun _ h => (nomatch h)), S.fl, S.fc, S.fw⟩
theorem St.weak {ρ' : List (Str × D)} (S : St B₀ s₀ md env MU ρ ω s) (hr : ∀ x d, ρ'.lookup x = some d → ρ.lookup x = some d) : St B₀ s₀ md env MU ρ' ω s :=
  ⟨S.fo.weak hr, S.k, S.fl, S.fc, S.fw⟩
theorem St.of {ws : List Addr} (S : St B₀ s₀ md env MU ρ ω s) {MU' : List Addr} {ρ' : List (Str × D)} {ω' : List (Addr × List D)} (F : FO B₀ env MU' ρ' ω' s'.heap) (K : KB ws s s') (hw : ∀ z ∈ ws, z ∈ md ∨ s₀.heap.get? z = none) (hω : ∀ p ∈ ω', p.1 ∈ md ∨ s₀.heap.get? p.1 = none) : St B₀ s₀ md env MU' ρ' ω' s' :=
  ⟨F, S.k.more K hw, S.fl, S.fc, hω⟩
/-- a name is stored -/
theorem St.store {x : Str} {v : Value} {d : D} {a : Addr} {E : Value → Shared → Prop} {Q : Unit → Shared → Prop} (S : St B₀ s₀ md env MU ρ ω s) (T : SlotOf env x a) (r : Rp (Hid MU s.heap) v d)
    (h : ∀ s', St B₀ s₀ md env MU ((x, d) :: ρ) ω s' → Q () s') : wpAny (model prog w) A (storeName env x v) Q E s := by
  refine store_name S.f T r fun h' tk F' hs _ => h _ ?_
  have sb : SubB [a] s.heap h' := fun b o n e => sameBut_get hs (by simpa using n) e
  have am := T.mem S.f.wf
  refine S.of (ws := [a]) (s' := { s with heap := h', toks := tk }) ⟨F', fun p hp => ?_, S.fo.d⟩ ⟨_, _, rfl, sb⟩ (fun z hz => ?_) S.fw
  · obtain ⟨c, sd⟩ := S.fo.o p hp
    have hne : p.1 ≠ a := by
      rcases T with ⟨_, e⟩ | ⟨_, e⟩
      · rw [e]; exact sd.loc
      · exact (sd.cel x a e).symm
    exact ⟨c.subB sb (by simpa using hne) fun b hb => by rw [List.mem_singleton] at hb; subst hb; exact am.1, sd⟩
  · rw [List.mem_singleton] at hz; subst hz
    rcases T with ⟨_, e⟩ | ⟨ek, e⟩
    · rw [e]; exact S.fl
    · exact S.fc x _ ek e
/-- a list of its own turned -/
theorem St.upd {a : Addr} {ys zs : List D} {ω₁ ω₂ : List (Addr × List D)} (S : St B₀ s₀ md env MU ρ (ω₁ ++ (a, ys) :: ω₂) s) (K : KB [a] s s') (c : Acc a MU zs s'.heap) : St B₀ s₀ md env MU ρ (ω₁ ++ (a, zs) :: ω₂) s' := by
  obtain ⟨c0, a0⟩ := S.fo.o (a, ys) (by simp)
  have live : ∃ o, s'.heap.get? a = some o := by obtain ⟨vs, ⟨n, e⟩, _⟩ := c; exact ⟨_, e⟩
  have k1 : ∀ b ∈ [a], b ∈ MU ∧ B₀.get? b = none ∧ b ≠ env.locals ∧ ∀ n c, env.cells.lookup n = some c → c ≠ b := fun b hb => by rw [List.mem_singleton] at hb; subst hb; exact ⟨a0.mem, a0.base, a0.loc, a0.cel⟩
  have dd := S.fo.d
  rw [List.pairwise_append, List.pairwise_cons] at dd
  obtain ⟨d1, ⟨d2, d3⟩, d4⟩ := dd
  have fwa := S.fw (a, ys) (by simp)
  refine S.of (ws := [a]) ⟨S.f.ws K.sub k1 fun b hb => by rw [List.mem_singleton] at hb; subst hb; exact live, fun p hp => ?_, ?_⟩ K (fun z hz => by rw [List.mem_singleton] at hz; subst hz; exact fwa) fun p hp => ?_
  · have other : p ∈ ω₁ ++ (a, ys) :: ω₂ → p.1 ≠ a → Acc p.1 MU p.2 s'.heap ∧ Aside B₀ env MU p.1 := fun hm hne =>
      let ⟨c, q⟩ := S.fo.o p hm
      ⟨c.subB K.sub (by simpa using hne) fun b hb => (k1 b hb).1, q⟩
    rcases List.mem_append.mp hp with hp | hp
    · exact other (List.mem_append_left _ hp) (d4 p hp _ (.head _))
    · rcases List.mem_cons.mp hp with q | hp
      · subst q; exact ⟨c, a0⟩
      · exact other (List.mem_append_right _ (.tail _ hp)) (d2 p hp).symm
  · rw [List.pairwise_append, List.pairwise_cons]
    exact ⟨d1, ⟨fun p hp => d2 p hp, d3⟩, fun p hp q hq => by
      rcases List.mem_cons.mp hq with e | hq
      · subst e; exact d4 p hp (a, ys) (.head _)
      · exact d4 p hp q (.tail _ hq)⟩
  · rcases List.mem_append.mp hp with hp | hp
    · exact S.fw p (List.mem_append_left _ hp)
    · rcases List.mem_cons.mp hp with q | hp
      · subst q; exact fwa
      · exact S.fw p (List.mem_append_right _ (.tail _ hp))
/-- a new list of its own -/
theorem St.new {a : Addr} {ys : List D} (S : St B₀ s₀ md env MU ρ ω s) (K : Kp s s') (ha : s.heap.get? a = none) (c : Acc a (a :: MU) ys s'.heap) : St B₀ s₀ md env (a :: MU) ρ ((a, ys) :: ω) s' := by
  have live : ∃ o, s'.heap.get? a = some o := by obtain ⟨vs, ⟨n, e⟩, _⟩ := c; exact ⟨_, e⟩
  have F := S.fo.hide (ws := [a]) K (fun b hb => by rw [List.mem_singleton] at hb; subst hb; exact ha) fun b hb => by rw [List.mem_singleton] at hb; subst hb; exact live
  have fa : s₀.heap.get? a = none ∨ a ∈ md := by
    cases q : s₀.heap.get? a with
    | none => exact .inl rfl
    | some o =>
      by_cases m : a ∈ md
      · exact .inr m
      · have := S.k.sub a o m q; rw [ha] at this; cases this
  have ne : ∀ b, b ∈ MU → b ≠ a := fun b hb q => by obtain ⟨o, e⟩ := S.f.low b hb; rw [q, ha] at e; cases e
  refine S.of (ws := []) ⟨F.f, fun p hp => ?_, ?_⟩ K.kb (fun _ h => (nomatch h)) fun p hp => ?_
  · rcases List.mem_cons.mp hp with q | hp
    · subst q
      refine ⟨?_, ⟨.head _, ?_, fun q => ne _ S.f.wf.loc.1 q.symm, fun n c e q => ne c (S.f.wf.cel n c e).1 q⟩⟩
      · exact c
      · cases q : B₀.get? a with
        | none => rfl
        | some o => rw [S.f.g _ _ q] at ha; cases ha
    · exact F.o p hp
  · refine List.pairwise_cons.mpr ⟨fun p hp q => ne p.1 (S.fo.o p hp).2.mem q.symm, S.fo.d⟩
  · rcases List.mem_cons.mp hp with q | hp
    · subst q; exact fa.symm
    · exact S.fw p hp
end
end Mine
end
end
section
set_option Elab.async false
noncomputable section
open PySem PySem.W PySem.Calls PyProof.Rows
set_option maxRecDepth 100000
set_option linter.unusedVariables false
namespace Mine
theorem Obj.set_plain (its : Array Value) (n j : Nat) (x : Value) : ∃ n', Obj.mapSeq (·.setIfInBounds j x) { cls := .type "list", data := .seq its n } = { cls := .type "list", data := .seq (its.setIfInBounds j x) n' } := by
  simp [Obj.mapSeq]
section
variable {prog : Program} {w : World} {B₀ : Heap} {A : Around} {env : Env} {MU md : List Addr} {ρ : List (Str × D)} {ω : List (Addr × List D)} {s₀ s s' : Shared} {E : Value → Shared → Prop}
theorem setItem_plain {l : Addr} {items : Array Value} {k : Int} {t : Tok} {v : Value} {Q : Unit → Shared → Prop} (hp : s.heap.PlainList l items) (h0 : 0 ≤ k) (hfit : k < 2 ^ 63) (hn : k < items.size)
    (hQ : ∀ h', h'.PlainList l (items.setIfInBounds k.toNat v) → Heap.SameBut l s.heap h' → Q () { s with heap := h' }) :
    wpAny (model prog w) A (setItem (.ref l) (.int k t) v) Q E s := by
  have hl := hp.isList
  obtain ⟨n, ho⟩ := hp
  unfold setItem
  try with_reducible refine wpAny_holding ?_
  first | refine wpAny_bind (wpAny_pure ?_) | skip
  refine wpAny_bind (wpAny_sequenceKey hl.typeIs (by decide) ?_)
  refine wpAny_bind (wpAny_callSpecial?_slot (name := Str.ofString "__setitem__") hl.typeIs slot_list_setitem
    (wpAny_call_entry slot_list_setitem hl.typeIs entry_list_setitem ?_ (args_list_setitem _ _ _)))
  show wpAny _ _ (Builtin.List.listSubscript? (.int k t) >>= _) _ _ s
  refine wpAny_bind (wpAny_listSubscript_int (fitsIndex_of h0 hfit) ?_)
  clear hfit
  obtain ⟨j, rfl⟩ := Int.eq_ofNat_of_zero_le h0
  have hj : j < items.size := by omega
  have hx' : items[j]? = some items[j] := Array.getElem?_eq_getElem hj
  show wpAny _ _ ((seqItemAt l j >>= fun r => pure (r.map (j, ·))) >>= _) _ _ s
  refine wpAny_bind (wpAny_bind (wpAny_seqItemAt ho rfl (wpAny_pure ?_)))
  rw [hx']
  show wpAny _ _ (setSeqItemAt l j v >>= _) _ _ s
  obtain ⟨n', en⟩ := Obj.set_plain items n j v
  have hfin : (s.heap.update l (Obj.mapSeq (·.setIfInBounds j v))).PlainList l (items.setIfInBounds j v) :=
    ⟨n', by rw [Heap.get?_update_self _ ho (by rw [en]; rfl), en]⟩
  refine wpAny_bind (wpAny_setSeqItemAt ho rfl ?_)
  first
    | exact wpAny_bind (wpAny_pure (wpAny_pure ⟨.none, rfl, wpAny_pure (hQ _ hfin (Heap.SameBut.update ..))⟩))
    | exact wpAny_pure ⟨.none, rfl, wpAny_pure (hQ _ hfin (Heap.SameBut.update ..))⟩
theorem sb1 {a : Addr} {h h' : Heap} (hs : Heap.SameBut a h h') : SubB [a] h h' := fun b o n e => sameBut_get hs (by simpa using n) e
-- statements
theorem s_assign {x : Str} {px pos : Pos} {e : Expr} {d : D} {a : Addr} {Q : Flow → Shared → Prop} (S : St B₀ s₀ md env MU ρ ω s) (he : Ev prog w B₀ A env MU ρ e d) (T : SlotOf env x a)
    (h : ∀ s', St B₀ s₀ md env MU ((x, d) :: ρ) ω s' → Q .next s') (hs : swapsWith e (some (.Name x px)) pos.line env = pure false := by rfl) : wpAny (model prog w) A (exec (.Assign [.Name x px] e pos) env) Q E s :=
  wpAny_Assign_Name (wpAny_mono (he s E S.f) (fun v s₁ ⟨r, K⟩ => (S.kp K).store T r h) fun _ _ x => x) hs
theorem s_return {e : Expr} {d : D} {pos : Pos} {Q : Flow → Shared → Prop} (S : St B₀ s₀ md env MU ρ ω s) (he : Ev prog w B₀ A env MU ρ e d)
    (h : ∀ v s', Rp (Hid MU s'.heap) v d → St B₀ s₀ md env MU ρ ω s' → Q (.ret v) s') : wpAny (model prog w) A (exec (.Return (some e) pos) env) Q E s :=
  x_return S.f he fun v s' r K => h v s' r (S.kp K)
theorem s_if {t : Expr} {body orelse : List Stmt} {pos : Pos} {b : Bool} {Q : Flow → Shared → Prop} (S : St B₀ s₀ md env MU ρ ω s) (ht : Ts prog w B₀ A env MU ρ t b)
    (h : ∀ s', St B₀ s₀ md env MU ρ ω s' → wpAny (model prog w) A (execs (if b then body else orelse) env) Q E s') : wpAny (model prog w) A (exec (.If t body orelse pos) env) Q E s :=
  x_if S.f ht fun s' K _ => h s' (S.kp K)
/-- a new list, its items not itself -/
noncomputable def EvN (prog : Program) (w : World) (B₀ : Heap) (A : Around) (env : Env) (MU : List Addr) (ρ : List (Str × D)) (e : Expr) (ds : List D) : Prop :=
  ∀ (s : Shared) (E : Value → Shared → Prop), Frm B₀ env MU ρ s.heap → wpAny (model prog w) A (eval e env) (fun v s' => ∃ a, v = .ref a ∧ s.heap.get? a = none ∧ Acc a (a :: MU) ds s'.heap ∧ Kp s s') E s
theorem hid_add {mu : List Addr} {h h' : Heap} {a : Addr} (k : Sub h h') (ha : h.get? a = none) : Sub (Hid mu h) (Hid (a :: mu) h') := fun b o e => by
  obtain ⟨n, e1⟩ := hid_get e
  refine hid_of (fun hm => ?_) (k _ _ e1)
  rcases List.mem_cons.mp hm with q | hm
  · rw [q, ha] at e1; cases e1
  · exact n hm
theorem size_none (h : Heap) : h.get? h.objs.size = none := by
  cases q : h.get? h.objs.size with
  | none => rfl
  | some o => exact absurd (Heap.lt_size q) (Nat.lt_irrefl _)
theorem EvN.list {es : List Expr} {pos : Pos} {ds : List D} (h : Evs prog w B₀ A env MU ρ es ds) (hn : ds.length ≤ sizeLine) : EvN prog w B₀ A env MU ρ (.List es pos) ds := fun s E F =>
  List_ (wpAny_mono (h.run s E F) (fun vs s' ⟨rv, K⟩ => wpAny_newObj_type (by
    have q : Kp s' { s' with heap := s'.heap.push { cls := .type "list", data := .seq vs.toArray } } := Kp.push s' _
    exact ⟨_, rfl, fresh_at K (Nat.le_refl _), ⟨vs, ⟨_, Heap.get?_push_size _ rfl⟩, rv.mono (hid_add q.sub (size_none _))⟩, K.trans q⟩) (by show vs.toArray.size ≤ sizeLine; rw [List.size_toArray, rv.length]; exact hn)) fun _ _ x => x)
theorem s_new {x : Str} {px pos : Pos} {e : Expr} {ds : List D} {b : Addr} {Q : Flow → Shared → Prop} (S : St B₀ s₀ md env MU ρ ω s) (he : EvN prog w B₀ A env MU ρ e ds) (T : SlotOf env x b)
    (h : ∀ a s', a ∉ MU → St B₀ s₀ md env (a :: MU) ((x, .raw (.ref a)) :: ρ) ((a, ds) :: ω) s' → Q .next s') (hs : swapsWith e (some (.Name x px)) pos.line env = pure false := by rfl) : wpAny (model prog w) A (exec (.Assign [.Name x px] e pos) env) Q E s :=
  wpAny_Assign_Name (wpAny_mono (he s E S.f) (fun v s₁ ⟨a, e, ha, c, K⟩ => by
    subst e
    exact (S.new K ha c).store T (.raw _) fun s' S' => h a s' (fun hm => by obtain ⟨o, eo⟩ := S.f.low a hm; rw [ha] at eo; cases eo) S') fun _ _ x => x) hs
/-- the list is no more its own: it stands for good -/
theorem St.freeze {x : Str} {a : Addr} {ys : List D} (S : St B₀ s₀ md env (a :: MU) ρ ((a, ys) :: ω) s) (ha : a ∉ MU) (hx : ρ.lookup x = some (.raw (.ref a))) : St B₀ s₀ md env MU ((x, .lst ys) :: ρ) ω s := by
  obtain ⟨⟨vs, p, r⟩, sd⟩ := S.fo.o (a, ys) (.head _)
  have dd := List.pairwise_cons.mp S.fo.d
  have hid : Sub (Hid (a :: MU) s.heap) (Hid MU s.heap) := hid_eqv fun b hb => .tail _ hb
  have tl : ∀ b, b ∈ a :: MU → b ≠ a → b ∈ MU := fun b hb n => (List.mem_cons.mp hb).resolve_left n
  have F := S.f
  refine ⟨⟨⟨F.g, F.k, F.gl, F.bl, fun b hb => F.low b (.tail _ hb), ⟨⟨tl _ F.wf.loc.1 sd.loc.symm, F.wf.loc.2⟩, fun n c e => ⟨tl _ (F.wf.cel n c e).1 (sd.cel n c e), (F.wf.cel n c e).2⟩, F.wf.inj⟩, F.ns, F.cl, fun y d e => ?_⟩, fun p hp => ?_, dd.2⟩, S.k, S.fl, S.fc, fun p hp => S.fw p (.tail _ hp)⟩
  · rw [List.lookup_cons] at e
    cases q : y == x with
    | true =>
      rw [q] at e; cases e
      obtain ⟨v, hv, rv⟩ := F.var x _ hx
      rw [eq_of_beq q]
      (first | obtain ⟨_, rfl⟩ := rp_int rv | obtain ⟨_, rfl⟩ := rp_str rv | obtain rfl := rp_raw rv | obtain rfl := rps_nil rv | cases rv)
      obtain ⟨n, en⟩ := p
      exact ⟨_, hv, .lst ⟨n, hid_of ha en⟩ (r.mono hid)⟩
    | false =>
      rw [q] at e
      obtain ⟨v, hv, rv⟩ := F.var y d e
      exact ⟨v, hv, rv.mono hid⟩
  · obtain ⟨c, sd'⟩ := S.fo.o p (.tail _ hp)
    exact ⟨c.eqv fun b hb => .tail _ hb, ⟨tl _ sd'.mem (dd.1 p hp).symm, sd'.base, sd'.loc, sd'.cel⟩⟩
/-- an item set -/
theorem s_set {o i e : Expr} {p' pos : Pos} {a : Addr} {k : Int} {d : D} {ys : List D} {ω₁ ω₂ : List (Addr × List D)} {Q : Flow → Shared → Prop} (S : St B₀ s₀ md env MU ρ (ω₁ ++ (a, ys) :: ω₂) s) (he : Ev prog w B₀ A env MU ρ e d) (ho : Ev prog w B₀ A env MU ρ o (.raw (.ref a))) (hi : Ev prog w B₀ A env MU ρ i (.int k)) (h0 : 0 ≤ k) (h1 : k < ys.length) (h63 : ys.length ≤ sizeLine)
    (h : ∀ s', St B₀ s₀ md env MU ρ (ω₁ ++ (a, ys.set k.toNat d) :: ω₂) s' → Q .next s') (hs : swapsWith e (some (.Subscript o i p')) pos.line env = pure false := by rfl) : wpAny (model prog w) A (exec (.Assign [.Subscript o i p'] e pos) env) Q E s :=
  wpAny_Assign_Subscript (wpAny_mono (he s E S.f) (fun v s₁ ⟨rv, K₁⟩ => Ev.two ho hi (S.kp K₁).f fun va vb s₂ ra rb K₂ F₂ => by
    (first | obtain ⟨_, rfl⟩ := rp_int ra | obtain ⟨_, rfl⟩ := rp_str ra | obtain rfl := rp_raw ra | obtain rfl := rps_nil ra | cases ra); (first | obtain ⟨_, rfl⟩ := rp_int rb | obtain ⟨_, rfl⟩ := rp_str rb | obtain rfl := rp_raw rb | obtain rfl := rps_nil rb | cases rb)
    have S₂ := (S.kp K₁).kp K₂
    obtain ⟨⟨vs, p, r⟩, sd⟩ := S₂.fo.o (a, ys) (by simp)
    have hl := r.length
    refine setItem_plain p h0 (by unfold sizeLine at h63; omega) (by rw [List.size_toArray, hl]; exact h1) fun h' p' hs' => h _ (S₂.upd (s' := { s₂ with heap := h' }) ⟨_, _, rfl, sb1 hs'⟩ ⟨vs.set k.toNat v, by simpa using p', ?_⟩)
    have sub : Sub (Hid MU s₂.heap) (Hid MU h') := (sb1 hs').hid (by simpa using sd.mem)
    have set : ∀ {vs : List Value} {ds : List D} (n : Nat), Rps (Hid MU h') vs ds → Rp (Hid MU h') v d → Rps (Hid MU h') (vs.set n v) (ds.set n d) := fun {vs ds} n r rv => by
      induction vs generalizing ds n with
      | nil => cases r; exact .nil
      | cons u us ih => cases r with
        | cons ra rb => cases n with
          | zero => exact .cons rv rb
          | succ n => exact .cons ra (ih n rb)
    exact set _ (r.mono sub) ((rv.mono K₂.hid).mono sub)) fun _ _ x => x) hs
end
end Mine
end
end
section
set_option Elab.async false
noncomputable section
open PySem PySem.W PySem.Calls PyProof.Rows
set_option maxRecDepth 100000
set_option linter.unusedVariables false
namespace Mine
section
variable {prog : Program} {w : World} {B₀ : Heap} {A : Around} {env : Env} {MU md : List Addr} {ρ : List (Str × D)} {ω : List (Addr × List D)} {s₀ s s' : Shared} {E : Value → Shared → Prop}
/-- a method of a built-in type -/
theorem meth_of {o : Expr} {es : List Expr} {name : Str} {T id : String} {apos pos : Pos} {d0 : D} {ds : List D} {Q : Value → Shared → Prop} (pa : PlainAttrs T) (slot : Slot T name id) (ty : typeOf (.builtin id) = pure (.type "method_descriptor"))
    (F : Frm B₀ env MU ρ s.heap) (ho : Ev prog w B₀ A env MU ρ o d0) (hes : Evs prog w B₀ A env MU ρ es ds)
    (hT : ∀ v s', Rp (Hid MU s'.heap) v d0 → Kp s s' → s'.TypeIs v T ∧ ∀ a, v = .ref a → ∃ ob, s'.heap.get? a = some ob ∧ ob.dict = none)
    (h : ∀ v vs s', Rp (Hid MU s'.heap) v d0 → Rps (Hid MU s'.heap) vs ds → Kp s s' → wpAny (model prog w) A (call (.builtin id) (v :: vs)) Q E s')
    (hbase : attributeBase o name env (eval o env) = eval o env := by rfl) (hfew : ((backTo pos (starEach es env)).all (fun x => !x.1) && (backToKw pos (keywordEach [] env)).all (fun x => x.1.isSome)
      && decide (es.length + ([] : List Keyword).length + (if ([] : List Keyword).isEmpty then 0 else 1) < 30)) = true := by rfl) (hline : (apos.endLine == pos.line) = true := by rfl) :
    wpAny (model prog w) A (eval (.Call (.Attribute o name apos) es [] pos) env) Q E s :=
  wpAny_Call_method_lateS hbase hfew hline (wpAny_mono (ho s E F) (fun v s₁ ⟨rv, K₁⟩ =>
    let ⟨t1, t2⟩ := hT v s₁ rv K₁
    ⟨T, id, pa, slot, ty, t1, t2, callWith_builtin hes.plain (hes.args (F.keeps K₁) fun vs s₂ r K₂ => h v vs s₂ (rv.mono K₂.hid) r (K₁.trans K₂))⟩) fun _ _ x => x)
theorem Ev.methS {o : Expr} {es : List Expr} {name : Str} {id : String} {apos pos : Pos} {x : Str} {ds : List D} {d : D} (slot : Slot "str" name id) (ty : typeOf (.builtin id) = pure (.type "method_descriptor"))
    (ho : Ev prog w B₀ A env MU ρ o (.str x)) (hes : Evs prog w B₀ A env MU ρ es ds)
    (h : ∀ t vs s E, Rps (Hid MU s.heap) vs ds → Frm B₀ env MU ρ s.heap → wpAny (model prog w) A (PySem.call (.builtin id) (.str x t :: vs)) (fun v s' => Rp (Hid MU s'.heap) v d ∧ Kp s s') E s)
    (hbase : attributeBase o name env (eval o env) = eval o env := by rfl) (hfew : ((backTo pos (starEach es env)).all (fun x => !x.1) && (backToKw pos (keywordEach [] env)).all (fun x => x.1.isSome)
      && decide (es.length + ([] : List Keyword).length + (if ([] : List Keyword).isEmpty then 0 else 1) < 30)) = true := by rfl) (hline : (apos.endLine == pos.line) = true := by rfl) :
    Ev prog w B₀ A env MU ρ (.Call (.Attribute o name apos) es [] pos) d := fun s E F =>
  meth_of PySem.F.plainAttrs_str slot ty F ho hes (fun v s' rv K => by (first | obtain ⟨_, rfl⟩ := rp_int rv | obtain ⟨_, rfl⟩ := rp_str rv | obtain rfl := rp_raw rv | obtain rfl := rps_nil rv | cases rv); exact ⟨typeIs_str _ _ _, fun _ e => nomatch e⟩) (fun v vs s' rv r K => by
    (first | obtain ⟨_, rfl⟩ := rp_int rv | obtain ⟨_, rfl⟩ := rp_str rv | obtain rfl := rp_raw rv | obtain rfl := rps_nil rv | cases rv)
    exact wpAny_mono (h _ vs s' E r (F.keeps K)) (fun _ _ ⟨x, y⟩ => ⟨x, K.trans y⟩) fun _ _ x => x) hbase hfew hline
theorem strsAre {h : Heap} : ∀ {vs : List Value} {ys : List Str}, Rps h vs (ys.map .str) → StrsAre vs ys
  | [], [], _ => .nil
  | _ :: _, [], r => by (first | obtain ⟨_, rfl⟩ := rp_int r | obtain ⟨_, rfl⟩ := rp_str r | obtain rfl := rp_raw r | obtain rfl := rps_nil r | cases r)
  | [], _ :: _, r => by (first | obtain ⟨_, rfl⟩ := rp_int r | obtain ⟨_, rfl⟩ := rp_str r | obtain rfl := rp_raw r | obtain rfl := rps_nil r | cases r)
  | _ :: _, y :: ys, r => by cases r with | cons a b => cases a; exact .cons _ _ (strsAre b)
theorem Ev.join {o e : Expr} {apos pos : Pos} {x : Str} {ys : List Str} (ho : Ev prog w B₀ A env MU ρ o (.str x)) (he : Ev prog w B₀ A env MU ρ e (.lst (ys.map .str))) (hok : (ys.map (·.length)).sum + ys.length * x.length ≤ 16777216)
    (hs : starEach [e] env = [(false, eval e env)] := by rfl) (hbase : attributeBase o "join" env (eval o env) = eval o env := by rfl) (hline : (apos.endLine == pos.line) = true := by rfl) :
    Ev prog w B₀ A env MU ρ (.Call (.Attribute o "join" apos) [e] [] pos) (.str (Txt.join x ys)) := by
  refine Ev.methS (ds := [.lst (ys.map .str)]) PySem.F.slot_str_join PySem.F.type_str_join ho (.cons he hs .nil) (fun t vs s E r F => ?_) hbase (by rw [hs]; rfl) hline
  replace r := rps_cons r; obtain ⟨_, _, rfl, r1, r2⟩ := r
  (first | obtain ⟨_, rfl⟩ := rp_int r2 | obtain ⟨_, rfl⟩ := rp_str r2 | obtain rfl := rp_raw r2 | obtain rfl := rps_nil r2 | cases r2)
  replace r1 := rp_lst r1; obtain ⟨_, _, rfl, p, q⟩ := r1
  exact join_list (plist p).isList (by simpa using strsAre q) hok fun t' k => ⟨.str _ _, Kp.tok s _⟩
theorem strD {h : Heap} : ∀ (l : List (Str × Tok)), Rps h (strValues l) ((l.map (·.1)).map .str)
  | [] => .nil
  | (y, t) :: l => .cons (.str y t) (strD l)
theorem split_call {x y : Str} {t u : Tok} {Q : Value → Shared → Prop} (hy : (y.length == 0) = false) (hsz : x.length ≤ sizeLine) (hsz2 : (Builtin.Str.partsBetween x (Builtin.Str.occurrences x y 0 x.length (x.length + 1)) y.length).length ≤ sizeLine)
    (hq : ∀ (l : List (Str × Tok)) k, l.map (·.1) = Txt.split x y → Q (.ref s.heap.objs.size) { s with heap := s.heap.push { cls := .type "list", data := .seq (strValues l).toArray }, toks := k }) :
    wpAny (model prog w) A (call (.builtin "str.split") [.str x t, .str y u]) Q E s := by
  cases h1 : (decide (x.length < y.length) || decide (Builtin.Str.strKind x < Builtin.Str.strKind y))
  · cases hf : (Builtin.Str.occurrences x y 0 x.length (x.length + 1)).isEmpty
    · refine call_meets PySem.F.slot_str_split (typeIs_str _ _ _) PySem.F.entry_str_split (PySem.F.args_str_split_2 _ _) (meets_str_split_sep x y t u h1 hy hf hsz hsz2) ?_
      show wants Q E _ { s with toks := _, heap := s.heap.push { cls := .type "list", data := .seq (strsFrom s.toks (Builtin.Str.partsBetween x (Builtin.Str.occurrences x y 0 x.length (x.length + 1)) y.length)).toArray } }
      rw [strsFrom_eq]
      exact hq (numbered s.toks _) _ ((numbered_texts _ _).trans ((if_neg (ne_true_of_eq_false h1)).trans (if_neg (ne_true_of_eq_false hf))).symm)
    · exact call_meets PySem.F.slot_str_split (typeIs_str _ _ _) PySem.F.entry_str_split (PySem.F.args_str_split_2 _ _) (meets_str_split_not_found x y t u h1 hy hf)
        (hq [(x, t)] _ ((if_neg (ne_true_of_eq_false h1)).trans (if_pos hf)).symm)
  · exact call_meets PySem.F.slot_str_split (typeIs_str _ _ _) PySem.F.entry_str_split (PySem.F.args_str_split_2 _ _) (meets_str_split_cannot_occur x y t u h1)
      (hq [(x, t)] _ (if_pos h1).symm)
theorem Ev.split {o e : Expr} {apos pos : Pos} {x y : Str} (ho : Ev prog w B₀ A env MU ρ o (.str x)) (he : Ev prog w B₀ A env MU ρ e (.str y)) (hy : (y.length == 0) = false) (hsz : x.length ≤ sizeLine) (hsz2 : (Builtin.Str.partsBetween x (Builtin.Str.occurrences x y 0 x.length (x.length + 1)) y.length).length ≤ sizeLine)
    (hs : starEach [e] env = [(false, eval e env)] := by rfl) (hbase : attributeBase o "split" env (eval o env) = eval o env := by rfl) (hline : (apos.endLine == pos.line) = true := by rfl) :
    Ev prog w B₀ A env MU ρ (.Call (.Attribute o "split" apos) [e] [] pos) (.lst ((Txt.split x y).map .str)) := by
  refine Ev.methS (ds := [.str y]) PySem.F.slot_str_split PySem.F.type_str_split ho (.cons he hs .nil) (fun t vs s E r F => ?_) hbase (by rw [hs]; rfl) hline
  replace r := rps_cons r; obtain ⟨_, _, rfl, r1, r2⟩ := r
  (first | obtain ⟨_, rfl⟩ := rp_int r2 | obtain ⟨_, rfl⟩ := rp_str r2 | obtain rfl := rp_raw r2 | obtain rfl := rps_nil r2 | cases r2); (first | obtain ⟨_, rfl⟩ := rp_int r1 | obtain ⟨_, rfl⟩ := rp_str r1 | obtain rfl := rp_raw r1 | obtain rfl := rps_nil r1 | cases r1)
  refine split_call hy hsz hsz2 fun l k e => ?_
  have q := newLst (mu := MU) (s := s) F.low (strD l)
  rw [e] at q
  exact ⟨q.1, Kp.mk q.2.sub⟩
/-- appending, as a statement -/
theorem s_append {o e : Expr} {apos cpos pos : Pos} {a : Addr} {d : D} {ys : List D} {ω₁ ω₂ : List (Addr × List D)} {Q : Flow → Shared → Prop} (S : St B₀ s₀ md env MU ρ (ω₁ ++ (a, ys) :: ω₂) s) (ho : Ev prog w B₀ A env MU ρ o (.raw (.ref a))) (he : Ev prog w B₀ A env MU ρ e d) (hn : ys.length ≤ sizeLine)
    (h : ∀ s', St B₀ s₀ md env MU ρ (ω₁ ++ (a, ys ++ [d]) :: ω₂) s' → Q .next s')
    (hi : interactive env = false := by rfl) (hsw : swapsWith (.Call (.Attribute o "append" apos) [e] [] cpos) none pos.line env = pure false := by rfl)
    (hs : starEach [e] env = [(false, eval e env)] := by rfl) (hbase : attributeBase o "append" env (eval o env) = eval o env := by rfl) (hline : (apos.endLine == cpos.line) = true := by rfl) :
    wpAny (model prog w) A (exec (.Expr (.Call (.Attribute o "append" apos) [e] [] cpos) pos) env) Q E s := by
  refine wpAny_Expr ?_ hi hsw
  refine meth_of (T := "list") (id := "list.append") (ds := [d]) PySem.F.plainAttrs_list slot_list_append type_list_append S.f ho (.cons he hs .nil) (fun v s' rv K => ?_) (fun v vs s' rv r K => ?_) hbase (by rw [hs]; rfl) hline
  · (first | obtain ⟨_, rfl⟩ := rp_int rv | obtain ⟨_, rfl⟩ := rp_str rv | obtain rfl := rp_raw rv | obtain rfl := rps_nil rv | cases rv)
    obtain ⟨⟨vs, p, r⟩, sd⟩ := (S.kp K).fo.o (a, ys) (by simp)
    obtain ⟨n, e⟩ := p
    exact ⟨⟨_, e, rfl⟩, fun b q => by cases q; exact ⟨_, e, rfl⟩⟩
  · (first | obtain ⟨_, rfl⟩ := rp_int rv | obtain ⟨_, rfl⟩ := rp_str rv | obtain rfl := rp_raw rv | obtain rfl := rps_nil rv | cases rv)
    replace r := rps_cons r; obtain ⟨_, _, rfl, r1, r2⟩ := r
    (first | obtain ⟨_, rfl⟩ := rp_int r2 | obtain ⟨_, rfl⟩ := rp_str r2 | obtain rfl := rp_raw r2 | obtain rfl := rps_nil r2 | cases r2)
    have S' := S.kp K
    obtain ⟨⟨us, p, rs⟩, sd⟩ := S'.fo.o (a, ys) (by simp)
    refine wpAny_list_append_plain p (fun h' p' hs' => h _ ?_) (by rw [List.size_toArray, rs.length]; exact hn)
    have sub : Sub (Hid MU s'.heap) (Hid MU h') := (sb1 hs').hid (by simpa using sd.mem)
    exact S'.upd (s' := { s' with heap := h' }) ⟨_, _, rfl, sb1 hs'⟩ ⟨us ++ [_], by simpa using p', (rs.append (.cons r1 .nil)).mono sub⟩
end
end Mine
end
end
section
set_option Elab.async false
noncomputable section
open PySem PySem.W PySem.Calls PyProof.Rows
set_option maxRecDepth 100000
set_option linter.unusedVariables false
namespace Mine
section
variable {prog : Program} {w : World} {B₀ : Heap} {A : Around} {env : Env} {MU md : List Addr} {ρ : List (Str × D)} {ω : List (Addr × List D)} {s₀ s s' : Shared} {E : Value → Shared → Prop}
theorem mul_plain {l : Addr} {items : Array Value} {k : Nat} {x : Int} {u : Tok} {Q : Value → Shared → Prop}
    (hl : s.heap.get? l = some { cls := .type "list", dict := none, data := .seq items k, slots := #[] })
    (hlo : -(2 ^ 63 : Int) ≤ x) (hhi : x < 2 ^ 63) (hsz : items.size * x.toNat ≤ 2 ^ 24)
    (h : Q (.ref s.heap.objs.size) { s with heap := s.heap.push { cls := .type "list", data := .seq (List.foldl (fun x1 x2 => x1 ++ x2) #[] (List.replicate (if items.isEmpty = true then 0 else x.toNat) items)) } }) :
    wpAny (model prog w) A (binaryOp .Mult (.ref l) (.int x u)) Q E s :=
  wpAny_binaryOp_repeat_ref (T := "list") (U := "int") (by decide) ⟨_, hl, rfl⟩ (fun s' => typeIs_int s' x u) noFill_list_mul PySem.F.fills_int_mul PySem.F.slot_int_rmul repeat_list PySem.F.slot_int_index.lookup
    (call_meets PySem.F.slot_int_rmul (typeIs_int s x u) PySem.F.entry_int_rmul (PySem.F.args_int_rmul_2 _ _) (int___rmul___int_list x u l items k)
      ⟨hl, rfl, ⟨_, hl, rfl⟩, call_meets PySem.F.slot_list_mul ⟨_, hl, rfl⟩ PySem.F.entry_list_mul (PySem.F.args_list_mul_2 _ _)
        (AutoListH.list___mul___list_int_3 l items k x u (by simp [Builtin.List.listFitsIndex]; omega) (by omega) (by simp [Builtin.List.listTooLong, sizeLine]; omega))
        ⟨hl, h⟩⟩)
theorem fold_one (v : Value) : ∀ n (acc : Array Value), List.foldl (fun x1 x2 => x1 ++ x2) acc (List.replicate n #[v]) = acc ++ (List.replicate n v).toArray
  | 0, acc => by simp
  | n + 1, acc => by rw [List.replicate_succ, List.foldl_cons, fold_one v n]; exact Array.ext' (by simp [List.replicate_succ])
/-- one item, so many times -/
theorem EvN.lmul {l r : Expr} {pos : Pos} {d : D} {k : Int} (hl : Ev prog w B₀ A env MU ρ l (.lst [d])) (hr : Ev prog w B₀ A env MU ρ r (.int k)) (h0 : 0 ≤ k) (h1 : k ≤ 1000000) : EvN prog w B₀ A env MU ρ (.BinOp l .Mult r pos) (List.replicate k.toNat d) := fun s E F =>
  wpAny_BinOp (Ev.two hl hr F fun va vb s' ra rb K F' => by
    replace ra := rp_lst ra; obtain ⟨a, vs, rfl, p, q⟩ := ra
    replace q := rps_cons q; obtain ⟨v, _, rfl, rv, q⟩ := q
    cases q
    (first | obtain ⟨_, rfl⟩ := rp_int rb | obtain ⟨_, rfl⟩ := rp_str rb | obtain rfl := rp_raw rb | obtain rfl := rps_nil rb | cases rb)
    obtain ⟨n, e⟩ := plist p
    refine mul_plain e (by omega) (by omega) (by simp; omega) ?_
    have z : (if (#[v] : Array Value).isEmpty = true then 0 else k.toNat) = k.toNat := by simp
    have z' : List.foldl (fun x1 x2 => x1 ++ x2) #[] (List.replicate (if (#[v] : Array Value).isEmpty = true then 0 else k.toNat) #[v]) = (List.replicate k.toNat v).toArray := by rw [z, fold_one]; simp
    show ∃ a, _
    rw [show ([v] : List Value).toArray = #[v] from rfl, z']
    have qq : Kp s' { s' with heap := s'.heap.push { cls := .type "list", data := .seq (List.replicate k.toNat v).toArray } } := Kp.push s' _
    exact ⟨_, rfl, fresh_at K (Nat.le_refl _), ⟨_, ⟨_, Heap.get?_push_size _ rfl⟩, (Rps.replicate rv _).mono (hid_add qq.sub (size_none _))⟩, K.trans qq⟩)
/-- a list made anew, as plain data -/
theorem EvN.ev {e : Expr} {ds : List D} (h : EvN prog w B₀ A env MU ρ e ds) : Ev prog w B₀ A env MU ρ e (.lst ds) := fun s E F =>
  wpAny_mono (h s E F) (fun v s' ⟨a, e, ha, ⟨vs, ⟨n, p⟩, r⟩, K⟩ => by
    subst e
    refine ⟨.lst ⟨n, hid_of (fun hm => ?_) p⟩ (r.mono (hid_eqv fun b hb => .tail _ hb)), K⟩
    obtain ⟨o, eo⟩ := F.low _ hm; rw [ha] at eo; cases eo) fun _ _ x => x
theorem own_mem (F : FO B₀ env MU ρ ω s.heap) : ∀ b ∈ ownOf env (ω.map (·.1)), b ∈ MU := fun b hb => by
  rcases List.mem_cons.mp hb with q | hb
  · exact q ▸ F.f.wf.loc.1
  · rcases List.mem_append.mp hb with hb | hb
    · obtain ⟨p, hp, e⟩ := List.mem_filterMap.mp hb
      split at e
      · exact (F.f.wf.cel _ _ e).1
      · cases e
    · obtain ⟨p, hp, rfl⟩ := List.mem_map.mp hb
      exact (F.o p hp).2.mem
theorem own_cell {as : List Addr} {n : Str} {c : Addr} (k : env.kindOf n = some .cell) (e : env.cells.lookup n = some c) : c ∈ ownOf env as :=
  .tail _ (List.mem_append_left _ (List.mem_filterMap.mpr ⟨(n, c), lookup_mem e, by show (if env.kindOf n = some .cell then _ else _) = _; rw [if_pos k]; exact e⟩))
theorem St.start (F : FO B₀ env MU ρ ω s.heap) : St B₀ s (ownOf env (ω.map (·.1))) env MU ρ ω s :=
  ⟨F, KB.refl, .inl (.head _), fun n c k e => .inl (own_cell k e), fun p hp => .inl (.tail _ (List.mem_append_right _ (List.mem_map.mpr ⟨p, hp, rfl⟩)))⟩
theorem St.own (S : St B₀ s₀ md env MU ρ ω s) : ∀ z ∈ ownOf env (ω.map (·.1)), z ∈ md ∨ s₀.heap.get? z = none := fun b hb => by
  rcases List.mem_cons.mp hb with q | hb
  · exact q ▸ S.fl
  · rcases List.mem_append.mp hb with hb | hb
    · obtain ⟨p, hp, e⟩ := List.mem_filterMap.mp hb
      split at e
      · rename_i k; exact S.fc _ _ k e
      · cases e
    · obtain ⟨p, hp, rfl⟩ := List.mem_map.mp hb
      exact S.fw p hp
theorem St.res {P : Heap → Prop} (S : St B₀ s₀ md env MU ρ ω s) (hp : P s.heap) : Res md P s₀ s := by
  have hk := S.k
  obtain ⟨h, t, rfl, k⟩ := hk
  exact ⟨h, t, rfl, k, hp⟩
/-- a for loop; R, W: what holds before turn i; Bk: where a break may leave; Rt: what may be given back -/
theorem s_for {tgt iter : Expr} {body : List Stmt} {pos : Pos} {ds : List D} {Q : Flow → Shared → Prop} (R : Nat → List (Str × D)) (W : Nat → List (Addr × List D)) (Bk : List (Str × D) → List (Addr × List D) → Prop) (Rt : D → List (Addr × List D) → Prop)
    (S : St B₀ s₀ md env MU ρ ω s) (hit : It prog w B₀ A env MU ρ iter ds) (h0 : ∀ x d, (R 0).lookup x = some d → ρ.lookup x = some d) (hW0 : W 0 = ω) (hW : ∀ i, (W i).map (·.1) = ω.map (·.1)) (hBk : ∀ ρ' ω', Bk ρ' ω' → ω'.map (·.1) = ω.map (·.1)) (hRt : ∀ d ω', Rt d ω' → ω'.map (·.1) = ω.map (·.1))
    (hbody : ∀ i d MU' s₀ md s₁ E v, ds[i]? = some d → (∀ b ∈ MU, b ∈ MU') → St B₀ s₀ md env MU' (R i) (W i) s₁ → Rp (Hid MU' s₁.heap) v d →
      wpAny (model prog w) A (assign tgt env v) (fun _ s₂ => wpAny (model prog w) A (execs body env) (fun f s₃ => match f with
        | .next | .cont => St B₀ s₀ md env MU' (R (i + 1)) (W (i + 1)) s₃
        | .brk => ∃ ρ' ω', Bk ρ' ω' ∧ St B₀ s₀ md env MU' ρ' ω' s₃
        | .ret v => ∃ d ω', Rt d ω' ∧ Rp (Hid MU' s₃.heap) v d ∧ St B₀ s₀ md env MU' [] ω' s₃) E s₂) E s₁)
    (hQ : ∀ s', St B₀ s₀ md env MU (R ds.length) (W ds.length) s' → Q .next s') (hQb : ∀ ρ' ω' s', Bk ρ' ω' → St B₀ s₀ md env MU ρ' ω' s' → Q .next s') (hQr : ∀ d ω' v s', Rt d ω' → Rp (Hid MU s'.heap) v d → St B₀ s₀ md env MU [] ω' s' → Q (.ret v) s')
    (hs : ∀ x, foldedSetIterable iter env x = pure x := by intro _; rfl) :
    wpAny (model prog w) A (exec (.For tgt iter body [] pos) env) Q E s := by
  have inM : ∀ ω' : List (Addr × List D), ω'.map (·.1) = ω.map (·.1) → ∀ p ∈ ω', p.1 ∈ MU := fun ω' e p hp => by
    have : p.1 ∈ ω.map (·.1) := e ▸ List.mem_map.mpr ⟨p, hp, rfl⟩
    obtain ⟨q, hq, e⟩ := List.mem_map.mp this
    exact e ▸ (S.fo.o q hq).2.mem
  have toSt : ∀ {ρ' ω' s'} (P : Heap → Prop), ω'.map (·.1) = ω.map (·.1) → Res (ownOf env (ω.map (·.1))) P s s' → FO B₀ env MU ρ' ω' s'.heap → St B₀ s₀ md env MU ρ' ω' s' := fun P e r F => by
    obtain ⟨h, t, rfl, k, _⟩ := r
    refine S.of (ws := ownOf env (ω.map (·.1))) F ⟨h, t, rfl, k⟩ S.own fun p hp => ?_
    have : p.1 ∈ ω.map (·.1) := e ▸ List.mem_map.mpr ⟨p, hp, rfl⟩
    obtain ⟨q, hq, e⟩ := List.mem_map.mp this
    exact e ▸ S.fw q hq
  have drop : ∀ {ρ' ω' wr h h'}, ω'.map (·.1) = ω.map (·.1) → FO B₀ env (wr ++ MU) ρ' ω' h → (∀ b ∈ wr, b ∉ MU ∧ B₀.get? b = none) → SubB wr h h' → FO B₀ env MU ρ' ω' h' := fun e F hw sb =>
    F.drop sb S.f.wf.loc.1 (fun n c e => (S.f.wf.cel n c e).1) (inM _ e) hw
  refine for_gen (fun i MU' h => FO B₀ env MU' (R i) (W i) h) (fun MU' h => ∃ ρ' ω', Bk ρ' ω' ∧ FO B₀ env MU' ρ' ω' h) (fun v MU' h => ∃ d ω', Rt d ω' ∧ Rp (Hid MU' h) v d ∧ FO B₀ env MU' [] ω' h) (ownOf env (ω.map (·.1))) S.f hit (own_mem S.fo)
    (fun wr s' K hw live => ?_) (fun i wr h h' Fi hw sb live => ?_) (fun wr h h' Fi hw sb => drop (hW _) Fi hw sb) (fun i d wr s₁ E v ed hw Fi rv => ?_) (fun s' r => ?_) (fun v s' r => ?_) hs
  · have := (S.fo.hide K hw live).weak h0
    rw [← hW0] at this
    exact this
  · refine Fi.ws sb (fun b hb => ⟨List.mem_append_left _ hb, (hw b hb).2, fun q => (hw b hb).1 (q ▸ S.f.wf.loc.1), fun n c e q => (hw b hb).1 (q ▸ (S.f.wf.cel n c e).1), fun p hp q => (hw b hb).1 (q ▸ inM _ (hW i) p hp)⟩) live
  · have S₁ := St.start Fi
    rw [hW i] at S₁
    refine wpAny_mono (hbody i d (wr ++ MU) s₁ _ s₁ E v ed (fun b hb => List.mem_append_right _ hb) S₁ rv) (fun _ s₂ h₂ => wpAny_mono h₂ (fun f s₃ h₃ => ?_) fun _ _ x => x) fun _ _ x => x
    cases f with
    | next => exact h₃.res h₃.fo
    | cont => exact h₃.res h₃.fo
    | brk =>
      obtain ⟨ρ', ω', hb, S₃⟩ := h₃
      exact S₃.res ⟨ρ', ω', hb, drop (hBk _ _ hb) S₃.fo hw (SubB.refl _ _)⟩
    | ret v =>
      obtain ⟨d', ω', hb, rv', S₃⟩ := h₃
      exact S₃.res ⟨d', ω', hb, rv'.mono (hid_eqv fun b hb => List.mem_append_right _ hb), drop (hRt _ _ hb) S₃.fo hw (SubB.refl _ _)⟩
  · rcases r.prop with F | ⟨ρ', ω', hb, F⟩
    · exact hQ s' (toSt _ (hW _) r F)
    · exact hQb ρ' ω' s' hb (toSt _ (hBk _ _ hb) r F)
  · obtain ⟨d', ω', hb, rv', F⟩ := r.prop
    exact hQr d' ω' v s' hb rv' (toSt _ (hRt _ _ hb) r F)
/-- a for loop without break and return -/
theorem s_for0 {tgt iter : Expr} {body : List Stmt} {pos : Pos} {ds : List D} {Q : Flow → Shared → Prop} (R : Nat → List (Str × D)) (W : Nat → List (Addr × List D))
    (S : St B₀ s₀ md env MU ρ ω s) (hit : It prog w B₀ A env MU ρ iter ds) (h0 : ∀ x d, (R 0).lookup x = some d → ρ.lookup x = some d) (hW0 : W 0 = ω) (hW : ∀ i, (W i).map (·.1) = ω.map (·.1))
    (hbody : ∀ i d MU' s₀ md s₁ E v, ds[i]? = some d → (∀ b ∈ MU, b ∈ MU') → St B₀ s₀ md env MU' (R i) (W i) s₁ → Rp (Hid MU' s₁.heap) v d →
      wpAny (model prog w) A (assign tgt env v) (fun _ s₂ => wpAny (model prog w) A (execs body env) (fun f s₃ => f = .next ∧ St B₀ s₀ md env MU' (R (i + 1)) (W (i + 1)) s₃) E s₂) E s₁)
    (hQ : ∀ s', St B₀ s₀ md env MU (R ds.length) (W ds.length) s' → Q .next s')
    (hs : ∀ x, foldedSetIterable iter env x = pure x := by intro _; rfl) :
    wpAny (model prog w) A (exec (.For tgt iter body [] pos) env) Q E s :=
  s_for R W (fun _ _ => False) (fun _ _ => False) S hit h0 hW0 hW (fun _ _ h => h.elim) (fun _ _ h => h.elim) (fun i d MU' s₀ md s₁ E v ed hM S₁ rv =>
    wpAny_mono (hbody i d MU' s₀ md s₁ E v ed hM S₁ rv) (fun _ s₂ h₂ => wpAny_mono h₂ (fun f s₃ ⟨e, h₃⟩ => by subst e; exact h₃) fun _ _ x => x) fun _ _ x => x) hQ (fun _ _ _ h => h.elim) (fun _ _ _ _ h => h.elim) hs
theorem St.assign {x : Str} {px : Pos} {v : Value} {d : D} {a : Addr} {Q : Unit → Shared → Prop} (S : St B₀ s₀ md env MU ρ ω s) (T : SlotOf env x a) (r : Rp (Hid MU s.heap) v d)
    (h : ∀ s', St B₀ s₀ md env MU ((x, d) :: ρ) ω s' → Q () s') : wpAny (model prog w) A (PySem.assign (.Name x px) env v) Q E s := wpAny_assign_Name (S.store T r h)
/-- a while loop: fuel n, what holds before turn i -/
theorem s_while {test : Expr} {body : List Stmt} {pos : Pos} {Q : Flow → Shared → Prop} (R : Nat → List (Str × D)) (W : Nat → List (Addr × List D)) (n : Nat)
    (S : St B₀ s₀ md env MU (R 0) (W 0) s) (ht : ∀ i, i ≤ n → Ts prog w B₀ A env MU (R i) test (decide (i < n)))
    (hbody : ∀ i s₁ E, i < n → St B₀ s₀ md env MU (R i) (W i) s₁ → wpAny (model prog w) A (execs body env) (fun f s₃ => f = .next ∧ St B₀ s₀ md env MU (R (i + 1)) (W (i + 1)) s₃) E s₁)
    (hQ : ∀ s', St B₀ s₀ md env MU (R n) (W n) s' → Q .next s') :
    wpAny (model prog w) A (exec (.While test body [] pos) env) Q E s := by
  refine wpAny_While (codeAny_whileLoop (fun k s => ∃ i, i ≤ n ∧ k = n - i ∧ St B₀ s₀ md env MU (R i) (W i) s) (fun k s₁ ⟨i, hi, hk, S₁⟩ => ?_) n ⟨0, Nat.zero_le _, rfl, S⟩)
  refine wpAny_mono (ht i hi s₁ _ S₁.f) (fun b s₂ ⟨e, K⟩ => ?_) fun _ _ x => x
  subst e
  by_cases q : i < n
  · rw [decide_eq_true q, if_pos rfl]
    refine wpAny_mono (hbody i s₂ _ q (S₁.kp K)) (fun f s₃ ⟨e, S₃⟩ => ?_) fun _ _ x => x
    subst e
    exact ⟨n - (i + 1), by omega, i + 1, q, rfl, S₃⟩
  · rw [decide_eq_false q, if_neg Bool.false_ne_true]
    have : i = n := by omega
    subst this
    exact wpAny_execs_nil (hQ s₂ (S₁.kp K))
end
end Mine
end
end
section
set_option Elab.async false
noncomputable section
open PySem PySem.W PySem.Calls PyProof.Rows
set_option maxRecDepth 100000
set_option linter.unusedVariables false
namespace Mine
section
variable {prog : Program} {w : World} {B₀ : Heap} {A : Around} {env : Env} {MU mu md : List Addr} {ρ : List (Str × D)} {ω : List (Addr × List D)} {s₀ s s' : Shared} {E : Value → Shared → Prop}
/-- a def is called: its body's first state -/
theorem call_st {mg mb : Str → Option Value} (B : Base B₀ mg mb) {a : Addr} {fd : FuncData} {body : List Stmt} {names : List Str} (X : Def B₀ a fd body names) {vals : List Value} {ds : List D} {Q : Value → Shared → Prop}
    (hroom : A.depth < recursionLimit) (g : Sub B₀ s.heap) (low : Low mu s.heap) (r : Rps (Hid mu s.heap) vals ds) (hlen : vals.length = names.length) (hbind : bindArgs fd ⟨vals, []⟩ = pure (names.zip vals))
    (h : ∀ s₁, St B₀ s [] (callEnvC fd s.heap.objs.size a) (frameAt fd s.heap.objs.size ++ mu) (names.zip ds) [] s₁ → ∀ E, wpAny (model prog w) (A.deeper (callEnvC fd s.heap.objs.size a)) (execs body (callEnvC fd s.heap.objs.size a)) (fun f s' => Q (match f with | .ret v => v | _ => .none) s') E s₁) :
    wpAny (model prog w) A (call (.ref a) vals) Q E s :=
  call_def B X hroom g low r hlen hbind fun s₁ K F E => h s₁ ⟨⟨F, fun _ h => (nomatch h), List.Pairwise.nil⟩, K.kb, .inr (frame_fresh fd s.heap _ (.head _)), fun n c _ e => .inr (frame_fresh fd s.heap _ (.tail _ (List.mem_map.mpr ⟨(n, c), lookup_mem e, rfl⟩))), fun _ h => (nomatch h)⟩ E
/-- what a body gives back -/
theorem St.done {fr : List Addr} {v : Value} {d : D} (S : St B₀ s₀ [] env (fr ++ mu) ρ ω s) (r : Rp (Hid (fr ++ mu) s.heap) v d) : Rp (Hid mu s.heap) v d ∧ Kp s₀ s :=
  ⟨r.mono (hid_eqv fun b hb => List.mem_append_right _ hb), S.k.kp⟩
theorem EqGives_str (x y : Str) (t u : Tok) : MeetsSeq.EqGives (.str x t) (.str y u) (x == y) := fun _ _ _ _ _ _ h => eqBool_str h
theorem any_strs {h : Heap} (x : Str) (e : Value → Bool) (he : ∀ y t, e (.str y t) = (y == x)) : ∀ {vs : List Value} {ys : List Str}, Rps h vs (ys.map .str) → vs.any e = ys.any (· == x)
  | [], [], _ => rfl
  | _ :: _, [], r => by (first | obtain ⟨_, rfl⟩ := rp_int r | obtain ⟨_, rfl⟩ := rp_str r | obtain rfl := rp_raw r | obtain rfl := rps_nil r | cases r)
  | [], _ :: _, r => by (first | obtain ⟨_, rfl⟩ := rp_int r | obtain ⟨_, rfl⟩ := rp_str r | obtain rfl := rp_raw r | obtain rfl := rps_nil r | cases r)
  | _ :: _, y :: ys, r => by cases r with | cons a b => cases a; rw [List.any_cons, List.any_cons, he, any_strs x e he b]
theorem mem_strs {h : Heap} : ∀ {vs : List Value} {ys : List Str}, Rps h vs (ys.map .str) → ∀ v ∈ vs, ∃ y t, v = .str y t
  | [], [], _, v, hv => by cases hv
  | _ :: _, [], r, _, _ => by cases r
  | [], _ :: _, r, _, _ => by cases r
  | _ :: _, y :: ys, r, v, hv => by
    cases r with
    | cons a b =>
      rcases List.mem_cons.mp hv with q | hv
      · cases a; exact ⟨_, _, q⟩
      · exact mem_strs b v hv
theorem Ts.notInL {l r : Expr} {pos : Pos} {x : Str} {ys : List Str} (hl : Ev prog w B₀ A env MU ρ l (.str x)) (hr : Ev prog w B₀ A env MU ρ r (.lst (ys.map .str))) (hm : behindInMarks .NotIn r = false := by with_unfolding_all rfl) : Ts prog w B₀ A env MU ρ (.Compare l [.NotIn] [r] pos) (!ys.any (· == x)) :=
  Ts.cmp hl hr (fun va vb s E ra rb => by
    obtain ⟨t, rfl⟩ := rp_str ra
    replace rb := rp_lst rb; obtain ⟨a, vs, rfl, p, q⟩ := rb
    let e : Value → Bool := fun v => match v with | .str y _ => y == x | _ => false
    refine SeqInW.notIn_listW e (fun v hv => ?_) (plist p).isList ?_
    · obtain ⟨y, u, rfl⟩ := mem_strs q v (by simpa using hv)
      exact EqGives_str y x u t
    · rw [show vs.toArray.any e = vs.any e by simp, any_strs x e (fun _ _ => rfl) q]
      exact ⟨rfl, Kp.refl s⟩) hm
end
end Mine
end
end
section
set_option Elab.async false
noncomputable section
open PySem PySem.W PySem.Calls PyProof.Rows
set_option maxRecDepth 100000
set_option linter.unusedVariables false
set_option maxHeartbeats 1000000
namespace Mine
noncomputable def fdRings : FuncData := fdOf 270 (.str (Str.ofString "law_qu0060_01") 705) (topStmt 25)
noncomputable def rotS (n : Int) (x : Str) : Str := Txt.slice x (some ((x.length : Int) - n)) none ++ Txt.slice x none (some ((x.length : Int) - n))
noncomputable def rotI (n : Int) (x : Str) : Nat → Str
  | 0 => x
  | i + 1 => rotS n (rotI n x i)
noncomputable def homeN (n : Int) (x : Str) : Nat := ((List.range 6).find? fun i => rotI n x (i + 1) == x).getD 0
noncomputable def ringTo (n : Int) (x : Str) (k : Nat) : List Str := (List.range (k + 1)).map (rotI n x)
noncomputable def ringOf (n : Int) (x : Str) : List Str := ringTo n x (homeN n x)
noncomputable def rgStep (n : Int) (st : List (List Str) × List Str) (x : Str) : List (List Str) × List Str := if st.2.any (· == x) then st else (st.1 ++ [ringOf n x], st.2 ++ ringOf n x)
noncomputable def rgAt (n : Int) (words : List Str) (i : Nat) : List (List Str) × List Str := (words.take i).foldl (rgStep n) ([], [])
/-- the turning comes home -/
structure RingOk (n : Int) (x : Str) : Prop where
  home : rotI n x (homeN n x + 1) = x
  first : ∀ i, i < homeN n x → rotI n x (i + 1) ≠ x
  small : homeN n x < 6
  len : ∀ i, i ≤ homeN n x + 1 → (rotI n x i).length ≤ 6
theorem ringTo_succ (n : Int) (x : Str) (k : Nat) : ringTo n x (k + 1) = ringTo n x k ++ [rotI n x (k + 1)] := by
  unfold ringTo
  rw [List.range_succ, List.map_append]; rfl
theorem ringTo_len (n : Int) (x : Str) (k : Nat) : (ringTo n x k).length = k + 1 := by simp [ringTo]
theorem rgAt_succ {n : Int} {words : List Str} {i : Nat} {x : Str} (e : words[i]? = some x) : rgAt n words (i + 1) = rgStep n (rgAt n words i) x := by
  unfold rgAt
  rw [List.take_add_one, e]; simp
theorem rg_len {n : Int} {words : List Str} (h : ∀ x ∈ words, RingOk n x) : ∀ i, (rgAt n words i).2.length ≤ 6 * i ∧ (rgAt n words i).1.length ≤ i
  | 0 => by simp [rgAt]
  | i + 1 => by
    have ih := rg_len h i
    cases e : words[i]? with
    | none =>
      have : rgAt n words (i + 1) = rgAt n words i := by unfold rgAt; rw [List.take_add_one, e]; simp
      rw [this]; omega
    | some x =>
      rw [rgAt_succ e]
      have hs := (h x (List.mem_of_getElem? e)).small
      unfold rgStep
      split
      · omega
      · simp only [List.length_append, ringOf, ringTo_len, List.length_cons, List.length_nil]; omega
section
variable {w : World} {B₀ : Heap} {mg mb : Str → Option Value} {A : Around} {mu : List Addr}
theorem rings_ok (B : Base B₀ mg mb) (N : Nms mg mb) (X : Def B₀ 271 fdRings (bodyOf (topStmt 25)) ["words", "sends"]) {words : List Str} {sends : Int} (hw : words.length ≤ 10000) (hr : ∀ x ∈ words, RingOk sends x) (hh : A.handled = none) (hd : A.depth + 20 < recursionLimit) {s : Shared} {E : Value → Shared → Prop} {vs : List Value}
    (g : Sub B₀ s.heap) (low : Low mu s.heap) (r : Rps (Hid mu s.heap) vs [strL words, .int sends]) :
    wpAny (model theProg w) A (call (.ref 271) vs) (fun v s' => Rp (Hid mu s'.heap) v (.lst ((rgAt sends words words.length).1.map strL)) ∧ Kp s s') E s := by
  refine call_st B X (by omega) g low r (by rw [r.length]; rfl) ?_ fun s₁ S E => ?_
  · replace r := rps_cons r; obtain ⟨_, _, rfl, r1, r2⟩ := r
    replace r2 := rps_cons r2; obtain ⟨_, _, rfl, r2, r3⟩ := r2
    (first | obtain ⟨_, rfl⟩ := rp_int r3 | obtain ⟨_, rfl⟩ := rp_str r3 | obtain rfl := rp_raw r3 | obtain rfl := rps_nil r3 | cases r3); rfl
  have hA : (A.deeper (callEnvC fdRings s.heap.objs.size 271)).handled = none := hh
  generalize hL : s.heap.objs.size = L at *
  show wpAny _ _ (execs (_ :: _) _) _ _ _
  refine x_next ?_
  refine s_new S (EvN.list .nil (sz (by simp))) (.inl ⟨rfl, rfl⟩) fun a s₂ ha S₂ => ⟨rfl, ?_⟩
  refine x_next ?_
  refine s_assign (d := strL []) S₂ (Ev.list .nil (sz (by simp))) (.inl ⟨rfl, rfl⟩) fun s₃ S₃ => ⟨rfl, ?_⟩
  refine x_next ?_
  let R : Nat → List (Str × D) := fun i => [("known", strL (rgAt sends words i).2), ("rings", .raw (.ref a)), ("words", strL words), ("sends", .int sends)]
  let W : Nat → List (Addr × List D) := fun i => [(a, (rgAt sends words i).1.map strL)]
  refine s_for0 (ds := words.map .str) R W S₃ (It.list hA (Ev.name rfl) (sz (by simp; omega))) (lk_refl _) rfl (fun i => rfl) (fun i d MU s₀ md s₄ E v ed hM S₄ rv => ?_) fun s₅ S₅ => ⟨rfl, ?_⟩
  · rw [List.getElem?_map] at ed
    cases ew : words[i]? with
    | none => rw [ew] at ed; cases ed
    | some x =>
      rw [ew] at ed
      cases ed
      have ok := hr x (List.mem_of_getElem? ew)
      have hi : i < words.length := (List.getElem?_eq_some_iff.mp ew).1
      have hlen := rg_len hr i
      refine S₄.assign (.inl ⟨rfl, rfl⟩) rv fun s₅ S₅ => ?_
      refine x_next ?_
      refine s_if S₅ (Ts.notInL (ys := (rgAt sends words i).2) (Ev.name rfl) (Ev.name rfl)) fun s₆ S₆ => ?_
      by_cases hk : (rgAt sends words i).2.any (· == x) = true
      · rw [hk]
        refine wpAny_execs_nil ⟨rfl, wpAny_execs_nil ⟨rfl, ?_⟩⟩
        have e : rgAt sends words (i + 1) = rgAt sends words i := by rw [rgAt_succ ew]; unfold rgStep; rw [if_pos hk]
        show St B₀ s₀ md _ MU [("known", strL (rgAt sends words (i + 1)).2), ("rings", .raw (.ref a)), ("words", strL words), ("sends", .int sends)] [(a, (rgAt sends words (i + 1)).1.map strL)] s₆
        rw [e]
        exact S₆.weak (lk_skip rfl (lk_refl _))
      · have hk' : (rgAt sends words i).2.any (· == x) = false := eq_false_of_ne_true hk
        rw [hk']
        show wpAny _ _ (execs (_ :: _) _) _ _ _
        have e : rgAt sends words (i + 1) = ((rgAt sends words i).1 ++ [ringOf sends x], (rgAt sends words i).2 ++ ringOf sends x) := by rw [rgAt_succ ew]; unfold rgStep; rw [if_neg hk]
        refine x_next ?_
        refine s_new S₆ (EvN.list (.cons (Ev.name rfl) rfl .nil) (sz (by simp))) (.inl ⟨rfl, rfl⟩) fun b s₇ hb S₇ => ⟨rfl, ?_⟩
        refine x_next ?_
        have l0 := ok.len 0 (by omega)
        have l0' : x.length ≤ 6 := l0
        refine s_assign (d := .str (rotS sends x)) S₇ (Ev.cat (Ev.scut (Ev.name rfl) (.some (Ev.sub (Ev.lenS B (Ev.name rfl) (by omega) N.len) (Ev.name rfl))) .none (sz (by omega))) (Ev.scut (Ev.name rfl) .none (.some (Ev.sub (Ev.lenS B (Ev.name rfl) (by omega) N.len) (Ev.name rfl))) (sz (by omega))) (sz ?_)) (.inl ⟨rfl, rfl⟩) fun s₈ S₈ => ⟨rfl, ?_⟩
        · have := Txt.slice_le x (some ((x.length : Int) - sends)) none
          have := Txt.slice_le x none (some ((x.length : Int) - sends))
          omega
        refine x_next ?_
        refine s_while (fun j => [("now", .str (rotI sends x (j + 1))), ("ring", .raw (.ref b)), ("word", .str x), ("known", strL (rgAt sends words i).2), ("rings", .raw (.ref a)), ("words", strL words), ("sends", .int sends)])
          (fun j => [(b, (ringTo sends x j).map .str), (a, (rgAt sends words i).1.map strL)]) (homeN sends x) S₈ (fun j hj => ?_) (fun j s₉ E hj S₉ => ?_) fun s₉ S₉ => ⟨rfl, ?_⟩
        · have hb : (rotI sends x (j + 1) != x) = decide (j < homeN sends x) := by
            by_cases q : j < homeN sends x
            · rw [decide_eq_true q]; simpa using ok.first j q
            · have : j = homeN sends x := by omega
              subst this
              rw [ok.home]; simp
          rw [← hb]
          exact Ts.neS (Ev.name rfl) (Ev.name rfl)
        · show wpAny _ _ (execs (_ :: _) _) _ _ _
          refine x_next ?_
          refine s_append (ω₁ := []) S₉ (Ev.name rfl) (Ev.name rfl) (sz (by rw [List.length_map, ringTo_len]; have := ok.small; omega)) fun s₁₀ S₁₀ => ⟨rfl, ?_⟩
          refine x_next ?_
          have l1 := ok.len (j + 1) (by omega)
          refine s_assign (d := .str (rotS sends (rotI sends x (j + 1)))) S₁₀ (Ev.cat (Ev.scut (Ev.name rfl) (.some (Ev.sub (Ev.lenS B (Ev.name rfl) (by omega) N.len) (Ev.name rfl))) .none (sz (by omega))) (Ev.scut (Ev.name rfl) .none (.some (Ev.sub (Ev.lenS B (Ev.name rfl) (by omega) N.len) (Ev.name rfl))) (sz (by omega))) (sz ?_)) (.inl ⟨rfl, rfl⟩) fun s₁₁ S₁₁ => ⟨rfl, ?_⟩
          · have := Txt.slice_le (rotI sends x (j + 1)) (some (((rotI sends x (j + 1)).length : Int) - sends)) none
            have := Txt.slice_le (rotI sends x (j + 1)) none (some (((rotI sends x (j + 1)).length : Int) - sends))
            omega
          refine wpAny_execs_nil ⟨rfl, ?_⟩
          have q := S₁₁.weak (ρ' := [("now", .str (rotI sends x (j + 1 + 1))), ("ring", .raw (.ref b)), ("word", .str x), ("known", strL (rgAt sends words i).2), ("rings", .raw (.ref a)), ("words", strL words), ("sends", .int sends)]) (lk_cons (lk_skip rfl (lk_refl _)))
          show St B₀ s₀ md _ (b :: MU) _ [(b, (ringTo sends x (j + 1)).map .str), (a, (rgAt sends words i).1.map strL)] s₁₁
          rw [ringTo_succ, List.map_append]
          exact q
        have S₁₀ := S₉.freeze (x := "ring") hb rfl
        refine x_next ?_
        refine s_assign (d := strL ((rgAt sends words i).2 ++ ringOf sends x)) S₁₀ (Ev.cast (Ev.ladd (Ev.name rfl) (Ev.name rfl) (sz ?_)) ?_) (.inl ⟨rfl, rfl⟩) fun s₁₁ S₁₁ => ⟨rfl, ?_⟩
        · rw [List.length_map, List.length_map, ringTo_len]; have := ok.small; omega
        · unfold strL; rw [List.map_append]; rfl
        refine x_next ?_
        refine s_append (ω₁ := []) (d := strL (ringOf sends x)) S₁₁ (Ev.name rfl) (Ev.name rfl) (sz (by rw [List.length_map]; omega)) fun s₁₂ S₁₂ => ⟨rfl, ?_⟩
        refine wpAny_execs_nil ⟨rfl, wpAny_execs_nil ⟨rfl, ?_⟩⟩
        show St B₀ s₀ md _ MU [("known", strL (rgAt sends words (i + 1)).2), ("rings", .raw (.ref a)), ("words", strL words), ("sends", .int sends)] [(a, (rgAt sends words (i + 1)).1.map strL)] s₁₂
        rw [e, List.map_append]
        exact S₁₂.weak (lk_cons (lk_skip rfl (lk_skip rfl (lk_skip rfl (lk_skip rfl (lk_skip rfl (lk_refl _)))))))
  · rw [List.length_map] at S₅
    have S₆ := S₅.freeze (x := "rings") ha rfl
    refine wpAny_execs_cons (s_return S₆ (Ev.name rfl) fun v s₆ rv S₇ => ?_)
    exact S₇.done rv
end
end Mine
end
end
section
set_option Elab.async false
noncomputable section
open PySem PySem.W PySem.Calls PyProof.Rows
set_option maxRecDepth 100000
set_option linter.unusedVariables false
namespace Mine
theorem plainAttrs_re : PlainAttrs "re.Pattern" :=
  ⟨⟨"object.__getattribute__", by rw [typeLookup_type, builtinLookup_eq_fast]; kernel_rfl, by decide +kernel⟩, by rw [typeLookup_type, builtinLookup_eq_fast]; kernel_rfl⟩
theorem slot_re_sub : Slot "re.Pattern" "sub" "re.Pattern.sub" :=
  .of (owner := "re.Pattern") (n := "sub") (by rw [typeLookup_type, builtinLookup_eq_fast]; kernel_rfl) (by decide +kernel) (by decide +kernel) (by decide +kernel)
    (by first | exact .inl (by decide +kernel) | exact .inr (by decide +kernel)) (by rw [isSubtype_type]; kernel_rfl)
theorem slot_re_search : Slot "re.Pattern" "search" "re.Pattern.search" :=
  .of (owner := "re.Pattern") (n := "search") (by rw [typeLookup_type, builtinLookup_eq_fast]; kernel_rfl) (by decide +kernel) (by decide +kernel) (by decide +kernel)
    (by first | exact .inl (by decide +kernel) | exact .inr (by decide +kernel)) (by rw [isSubtype_type]; kernel_rfl)
theorem type_re_sub : typeOf (.builtin "re.Pattern.sub") = pure (.type "method_descriptor") := by show builtinType _ = _; rw [builtinType_eq_fast]; kernel_rfl
theorem type_re_search : typeOf (.builtin "re.Pattern.search") = pure (.type "method_descriptor") := by show builtinType _ = _; rw [builtinType_eq_fast]; kernel_rfl
theorem entry_re_sub : entryFor table "re.Pattern.sub" = some Builtin.«re.Pattern.sub» := entryFor_of_tree (by kernel_rfl)
theorem entry_re_sub_loop : entryFor table "re.Pattern.sub.loop" = some Builtin.«re.Pattern.sub.loop» := entryFor_of_tree (by kernel_rfl)
theorem entry_re_search : entryFor table "re.Pattern.search" = some Builtin.«re.Pattern.search» := entryFor_of_tree (by kernel_rfl)
theorem plain_re_sub_loop : plainId "re.Pattern.sub.loop" = true := by decide +kernel
theorem owner_re : Manifest.owners.lookup (String.ofList ['n', 'r', 'e', 't', 't', 'a', 'P', '.', 'e', 'r'].reverse) = some Manifest.sig_re_Pattern := by kernel_rfl
theorem args_re_sub (a b c : Value) : argsOk "re.Pattern.sub" ⟨[a, b, c], []⟩ := by
  unfold argsOk; rw [signature?_of (id := "re.Pattern.sub") (n := ['b', 'u', 's']) (o := ['n', 'r', 'e', 't', 't', 'a', 'P', '.', 'e', 'r']) (by kernel_rfl) owner_re]; kernel_rfl
theorem args_re_search (a b : Value) : argsOk "re.Pattern.search" ⟨[a, b], []⟩ := by
  unfold argsOk; rw [signature?_of (id := "re.Pattern.search") (n := ['h', 'c', 'r', 'a', 'e', 's']) (o := ['n', 'r', 'e', 't', 't', 'a', 'P', '.', 'e', 'r']) (by kernel_rfl) owner_re]; kernel_rfl
end Mine
end
end
section
set_option Elab.async false
noncomputable section
open PySem PySem.W PySem.Calls PyProof.Rows PySem.Builtin PySem.Builtin.Re
set_option maxRecDepth 100000
set_option linter.unusedVariables false
namespace Mine
open Sre (M)
theorem runFor_done {m : M} (h : m.outcome.isSome = true) : ∀ n, m.runFor n = m
  | 0 => rfl
  | n + 1 => by unfold M.runFor; rw [if_pos h]
theorem runFor_add : ∀ (a b : Nat) (m : M), m.runFor (a + b) = (m.runFor a).runFor b
  | 0, b, m => by rw [Nat.zero_add]; rfl
  | a + 1, b, m => by
    rw [Nat.add_right_comm]
    by_cases h : m.outcome.isSome = true
    · rw [runFor_done h, runFor_done h, runFor_done h]
    · rw [M.runFor, if_neg h, M.runFor, if_neg h]; exact runFor_add a b m.step
section
variable {prog : Program} {w : World} {A : Around} {s : Shared} {E : Value → Shared → Prop}
theorem drive {Q : M → Shared → Prop} : ∀ (turns n : Nat) (m : M), n ≤ 4 * turns → 1 ≤ turns → (m.runFor n).outcome.isSome = true → Q (m.runFor n) s → wpAny (model prog w) A (reDrive turns m) Q E s
  | 0, n, m, _, h, _, _ => absurd h (by omega)
  | t + 1, n, m, hn, _, ho, hQ => by
    unfold reDrive
    show wpAny _ _ (if (m.runFor reTurnSteps).outcome.isSome = true then pure (m.runFor reTurnSteps) else do rule "sre.turn"; reDrive t (m.runFor reTurnSteps)) _ _ _
    have e4 : reTurnSteps = 4 := rfl
    rw [e4]
    by_cases h : (m.runFor 4).outcome.isSome = true
    · rw [if_pos h]
      refine wpAny_pure ?_
      have : m.runFor 4 = m.runFor n := by
        rcases Nat.le_total n 4 with q | q
        · rw [show 4 = n + (4 - n) by omega, runFor_add, runFor_done ho]
        · rw [show n = 4 + (n - 4) by omega, runFor_add, runFor_done h]
      rw [this]; exact hQ
    · rw [if_neg h]
      refine wpAny_bind (wpAny_rule ?_)
      have hgt : 4 < n := by
        rcases Nat.lt_or_ge 4 n with q | q
        · exact q
        · exfalso; apply h; rw [show 4 = n + (4 - n) by omega, runFor_add, runFor_done ho]; exact ho
      have e : m.runFor n = (m.runFor 4).runFor (n - 4) := by rw [← runFor_add]; congr 1; omega
      rw [e] at ho hQ
      refine drive t (n - 4) (m.runFor 4) (by omega) (by omega) ho hQ
theorem rules_all {f : Nat → Bool} {g : Nat → String} {Q : PUnit → Shared → Prop} (h : Q ⟨⟩ s) : ∀ l : List Nat, wpAny (model prog w) A (forIn l PUnit.unit fun i _ => if f i = true then do rule (g i); pure (ForInStep.yield PUnit.unit) else pure (ForInStep.yield PUnit.unit)) Q E s
  | [] => wpAny_pure h
  | i :: l => by
    rw [List.forIn_cons]
    refine wpAny_bind ?_
    cases q : f i with
    | true => exact wpAny_bind (wpAny_rule (wpAny_pure (rules_all h l)))
    | false => exact wpAny_pure (rules_all h l)
/-- the machine's answer -/
inductive Ans (m : M) : Option (Nat × Nat) → Prop
  | no (n : Nat) : n ≤ 2 ^ 60 → (m.runFor n).outcome = some .failed → Ans m none
  | yes (n : Nat) (b e : Nat) : n ≤ 2 ^ 60 → (m.runFor n).outcome = some .matched → (m.runFor n).start = b → (m.runFor n).handed = e → Ans m (some (b, e))
noncomputable def Tel : Option (Nat × Nat) → Option M → Prop
  | none, none => True
  | some (b, e), some m' => m'.start = b ∧ m'.handed = e
  | _, _ => False
theorem runEnd {m : M} {r : Option (Nat × Nat)} (h : Ans m r) {Q : Option M → Shared → Prop} (hQ : ∀ o : Option M, Tel r o → Q o s) : wpAny (model prog w) A (reRunToEnd m) Q E s := by
  unfold reRunToEnd
  cases h with
  | no n hn ho =>
    refine wpAny_bind (drive (2 ^ 64) n m (by omega) (by omega) (by rw [ho]; rfl) ?_)
    refine wpAny_bind (rules_all ?_ _)
    rw [ho]
    exact wpAny_pure (hQ none trivial)
  | yes n b e hn ho hb he =>
    refine wpAny_bind (drive (2 ^ 64) n m (by omega) (by omega) (by rw [ho]; rfl) ?_)
    refine wpAny_bind (rules_all ?_ _)
    rw [ho]
    exact wpAny_pure (hQ (some _) ⟨hb, he⟩)
end
end Mine
end
end
section
set_option Elab.async false
noncomputable section
open PySem PySem.W PySem.Calls PyProof.Rows PySem.Builtin PySem.Builtin.Re
set_option maxRecDepth 100000
set_option linter.unusedVariables false
namespace Mine
open Sre (M inSet)
noncomputable def codeN : Array Nat := #[14, 10, 4, 1, 1, 22, 0, 31, 16, 127, 0, 13, 7, 22, 0, 31, 16, 127, 0, 1]
noncomputable def codeV : Array Nat := #[14, 14, 4, 1, 1, 9, 4294966783, 0, 0, 2147483648, 0, 0, 0, 0, 0, 13, 11, 9, 4294966783, 0, 0, 2147483648, 0, 0, 0, 0, 0, 1]
noncomputable def codeA : Array Nat := #[14, 4, 0, 1, 1, 6, 1, 16, 46, 1]
noncomputable def codeB : Array Nat := #[14, 9, 4, 1, 2, 16, 10, 16, 13, 0, 7, 7, 16, 13, 16, 10, 15, 18, 5, 16, 10, 15, 13, 11, 16, 13, 5, 5, 0, 16, 10, 1, 15, 2, 0, 1]
theorem inN {c : Nat} (h : 31 < c) (h' : c ≠ 127) (seen : Sre.Seen) : ∃ seen', inSet codeN c codeN.size 5 true seen = .ok (false, seen') := by
  refine ⟨((seen.add 22).add 16).add 0, ?_⟩
  show inSet codeN c 20 5 true seen = _
  rw [inSet]
  show (if (decide (0 ≤ c) && decide (c ≤ 31)) = true then _ else inSet codeN c 19 8 true (seen.add 22)) = _
  rw [if_neg (by simp; omega), inSet]
  show (if (c == 127) = true then _ else inSet codeN c 18 10 true ((seen.add 22).add 16)) = _
  rw [if_neg (by simpa using h'), inSet]
  rfl
theorem bitsV : ∀ c : Nat, c < 127 → 31 < c → (codeV.getD (5 + (1 + c / 32)) 0).testBit (c % 32) = false := by decide +kernel
theorem inV {c : Nat} (h : 31 < c) (h' : c < 127) (seen : Sre.Seen) : ∃ seen', inSet codeV c codeV.size 5 true seen = .ok (false, seen') := by
  refine ⟨(seen.add 9).add 0, ?_⟩
  show inSet codeV c 28 5 true seen = _
  rw [inSet]
  show (if (decide (c < 256) && (codeV.getD (5 + (1 + c / 32)) 0).testBit (c % 32)) = true then _ else inSet codeV c 27 14 true (seen.add 9)) = _
  rw [bitsV c h' h, Bool.and_false, if_neg Bool.false_ne_true, inSet]
  rfl
theorem adm_none {m : M} (h : ∀ i, i < m.lim → ∀ seen, ∃ seen', inSet m.code (m.text.getD i 0) m.code.size 5 true seen = .ok (false, seen')) : ∀ (fuel s : Nat) (seen : Sre.Seen), ∃ seen', m.admitted fuel s seen = .ok (none, seen')
  | 0, s, seen => ⟨seen, rfl⟩
  | fuel + 1, s, seen => by
    unfold M.admitted
    by_cases q : s ≥ m.lim
    · exact ⟨seen, by rw [if_pos q]⟩
    · rw [if_neg q]
      obtain ⟨seen₁, e⟩ := h s (by omega) seen
      rw [e]
      exact adm_none h fuel (s + 1) seen₁
theorem say_no {m : M} (h : m.outcome = none) (hf : m.frames = []) : Ans (m.say false) none := by
  refine .no 1 (by omega) ?_
  have e1 : (m.say false).outcome = none := h
  rw [M.runFor, e1]
  show (M.runFor 0 (m.say false).step).outcome = _
  show ((m.say false).step).outcome = _
  unfold M.step
  rw [e1]
  show (match (some false : Option Bool), m.frames with
    | some yes, [] => ({ m.say false with outcome := some (if yes = true then Sre.Outcome.matched else .failed) } : M)
    | some yes, f :: rest => _
    | none, _ => _).outcome = _
  rw [hf]
  rfl
theorem adm_case {m : M} {fuel s : Nat} {seen : Sre.Seen} {f : Nat → Sre.Seen → M} {g : Sre.Seen → M} {k : String → M} (P : M → Prop) (h : ∀ i, i < m.lim → ∀ seen, ∃ seen', inSet m.code (m.text.getD i 0) m.code.size 5 true seen = .ok (false, seen')) (hg : ∀ seen', P (g seen')) :
    P (match m.admitted fuel s seen with | .ok (some s, seen) => f s seen | .ok (none, seen) => g seen | .error why => k why) := by
  obtain ⟨seen', e⟩ := adm_none h fuel s seen
  rw [e]; exact hg seen'
/-- nothing to be found by a first set -/
theorem find_none {code text : Array Nat} (hf : ((match Sre.ops[code.getD 0 0]? with | some .INFO => true | _ => false) && code.getD 2 0 == 4) = true)
    (h : ∀ i, i < text.size → ∀ seen, ∃ seen', inSet code (text.getD i 0) code.size 5 true seen = .ok (false, seen')) : Ans (Sre.forSearch code text 0 0 text.size false) none := by
  unfold Sre.forSearch
  dsimp only
  split
  · exact say_no rfl rfl
  · unfold M.attemptFrom
    rw [if_neg (by
      show ¬ (!((match Sre.ops[code.getD 0 0]? with | some .INFO => true | _ => false) && code.getD 2 0 == 4)) = true
      rw [hf]; decide)]
    exact adm_case (fun m => Ans m none) h fun seen' => say_no rfl rfl
end Mine
end
end
section
set_option Elab.async false
noncomputable section
open PySem PySem.W PySem.Calls PyProof.Rows PySem.Builtin PySem.Builtin.Re
set_option maxRecDepth 100000
set_option linter.unusedVariables false
namespace Mine
theorem named1 (v : Value) : reNamed "re.Pattern.search" "search" ["string", "pos", "endpos"] 1 [v] [] = pure [some v, none, none] := by rfl
theorem named2 (u v : Value) : reNamed "re.Pattern.sub" "sub" ["repl", "string", "count"] 2 [u, v] [] = pure [some u, some v, none] := by rfl
/-- a compiled pattern for texts, without groups -/
structure Pat (h : Heap) (a : Addr) (code : Array Nat) : Prop where
  obj : ∃ p fl b its n, h.get? a = some ⟨.type "re.Pattern", none, .fields #[p, fl, .int 0 0, .none, .none, .ref b, .int 0 0], #[]⟩ ∧ h.get? b = some ⟨.type "tuple", none, .seq its n, #[]⟩ ∧ (its.map reRawOf).map (·.toNat) = code
theorem Pat.sub {h h' : Heap} {a : Addr} {code : Array Nat} (x : Pat h a code) (k : Sub h h') : Pat h' a code := let ⟨p, fl, b, its, n, e1, e2, e3⟩ := x.obj; ⟨p, fl, b, its, n, k _ _ e1, k _ _ e2, e3⟩
section
variable {prog : Program} {w : World} {A : Around} {s : Shared} {E : Value → Shared → Prop}
theorem target1 {a : Addr} {code : Array Nat} {x : Str} {t : Tok} (P : Pat s.heap a code) {Q : ReTarget → Shared → Prop} (hx : (x.cps.size : Int) < 2 ^ 63 - 1)
    (h : Q { pattern := .ref a, string := .str x t, code := code, text := x.cps, kind := 0, groups := 0, pos := 0, lim := x.cps.size } s) :
    wpAny (model prog w) A (reTarget "re.Pattern.search" "search" ⟨[.ref a, .str x t], []⟩) Q E s := by
  obtain ⟨p, fl, b, its, n, e1, e2, e3⟩ := P.obj
  unfold reTarget
  dsimp only
  rw [named1]
  refine wpAny_bind (wpAny_pure ?_)
  dsimp only
  refine wpAny_bind (wpAny_pure (wpAny_bind (wpAny_pure ?_)))
  refine wpAny_bind (wpAny_fieldsOf e1 rfl ?_)
  refine wpAny_bind (wpAny_pure ?_)
  dsimp only
  show wpAny _ _ (reNoCollectionInside (.str x t) 0 >>= _) _ _ _
  refine wpAny_bind (wpAny_pure ?_)
  refine wpAny_bind (wpAny_bind (wpAny_seqItems e2 rfl (wpAny_pure ?_)))
  refine wpAny_pure ?_
  have c1 : min ((0 : Int).toNat) x.cps.size = 0 := by simp
  have c2 : min ((2 ^ 63 - 1 : Int).toNat) x.cps.size = x.cps.size := by omega
  show Q { pattern := .ref a, string := .str x t, code := (its.map reRawOf).map (·.toNat), text := x.cps, kind := 0, groups := 0, pos := min ((0 : Int).toNat) x.cps.size, lim := min ((2 ^ 63 - 1 : Int).toNat) x.cps.size } s
  rw [c1, c2, e3]
  exact h
theorem search_none {a : Addr} {code : Array Nat} {x : Str} {t : Tok} (P : Pat s.heap a code) (hx : (x.cps.size : Int) < 2 ^ 63 - 1) (hn : Ans (Sre.forSearch code x.cps 0 0 x.cps.size false) none) {Q : Value → Shared → Prop} (h : Q .none s) :
    wpAny (model prog w) A (call (.builtin "re.Pattern.search") [.ref a, .str x t]) Q E s := by
  obtain ⟨p, fl, b, its, n, e1, e2, e3⟩ := id P.obj
  refine wpAny_call_entry slot_re_search ⟨_, e1, rfl⟩ entry_re_search ?_ (args_re_search _ _)
  unfold «re.Pattern.search»
  refine wpAny_bind (target1 P hx ?_)
  unfold reAnswer
  refine wpAny_bind (runEnd hn fun o ho => ?_)
  cases o with
  | none => exact wpAny_pure ⟨_, rfl, h⟩
  | some m => exact ho.elim
end
end Mine
end
end
section
set_option Elab.async false
noncomputable section
open PySem PySem.W PySem.Calls PyProof.Rows PySem.Builtin PySem.Builtin.Re
set_option maxRecDepth 100000
set_option linter.unusedVariables false
namespace Mine
open Sre (M)
noncomputable def stA (text : Array Nat) (must first : Bool) (s : Nat) (seen : Sre.Seen) : M :=
  { code := codeA, text := text, lim := text.size, start := s, lastStart := text.size, wholeText := false, mustAdvance := must, pc := 5, pos := s, handed := s, outermost := first, marks := Array.replicate (2 * 0) none, lastmark := -1, lastindex := -1, loops := #[], inner := none,
    frames := [{ wait := .nextStart, pc := 5, pos := s, outermost := first }], weight := 1, answer := none, seen := seen, outcome := none }
noncomputable def bol (text : Array Nat) (s : Nat) : Bool := s == 0 || text.getD (s - 1) 0 == 10
theorem A1 {text : Array Nat} {must first : Bool} {s : Nat} {seen : Sre.Seen} :
    (stA text must first s seen).step = if bol text s = true then { stA text must first s seen with seen := (seen.add 6).add 44, pc := 7 } else { stA text must first s seen with seen := (seen.add 6).add 44, answer := some false } := by rfl
noncomputable def accM (m : M) (r : Except String (Bool × Sre.Seen)) : M := match r with
  | .error why => m.stick why
  | .ok (false, seen) => M.say { m with seen } false
  | .ok (true, seen) => { m with seen, pc := m.pc + Sre.itemWidth m.code m.pc, pos := m.pos + 1 }
theorem A3 {text : Array Nat} {must first : Bool} {s : Nat} {seen : Sre.Seen} :
    ({ stA text must first s seen with pc := 7 } : M).step = if s ≥ text.size then { stA text must first s seen with pc := 7, seen := seen.add 16, answer := some false } else
      accM { stA text must first s seen with pc := 7, seen := seen.add 16 } (.ok (text.getD s 0 == 46, seen.add 16)) := by rfl
theorem A2 {text : Array Nat} {must first : Bool} {s : Nat} {seen : Sre.Seen} (h : s < text.size) :
    ({ stA text must first s seen with answer := some false } : M).step = stA text false false (s + 1) seen := by
  show (if s < text.size then _ else _) = _
  rw [if_pos h]
  rfl
theorem A2n {text : Array Nat} {must first : Bool} {s pc : Nat} {seen : Sre.Seen} (h : ¬ s < text.size) :
    ({ stA text must first s seen with pc := pc, answer := some false } : M).step = { stA text must first s seen with frames := [], weight := 0, answer := some false } := by
  show (if s < text.size then _ else _) = _
  rw [if_neg h]
  rfl
theorem A4 {text : Array Nat} {must first : Bool} {s : Nat} {seen : Sre.Seen} :
    ({ stA text must first s seen with pc := 9, pos := s + 1 } : M).step = { stA text must first s seen with pc := 9, pos := s + 1, handed := s + 1, seen := seen.add 1, answer := some true } := by
  have h : (s + 1 == s) = false := by simp
  show (if (first && ((false && (s + 1 != text.size)) || (must && (s + 1 == s)))) = true then _ else _) = _
  rw [h]
  simp only [Bool.false_and, Bool.and_false, Bool.or_false, Bool.false_eq_true, if_false]
  rfl
theorem A5 {text : Array Nat} {must first : Bool} {s : Nat} {seen : Sre.Seen} :
    (({ stA text must first s seen with pc := 9, pos := s + 1, handed := s + 1, answer := some true } : M).step.step).outcome = some .matched ∧ (({ stA text must first s seen with pc := 9, pos := s + 1, handed := s + 1, answer := some true } : M).step.step).start = s
      ∧ (({ stA text must first s seen with pc := 9, pos := s + 1, handed := s + 1, answer := some true } : M).step.step).handed = s + 1 := ⟨rfl, rfl, rfl⟩
end Mine
end
end
section
set_option Elab.async false
noncomputable section
open PySem PySem.W PySem.Calls PyProof.Rows PySem.Builtin PySem.Builtin.Re
set_option maxRecDepth 100000
set_option linter.unusedVariables false
namespace Mine
open Sre (M)
noncomputable def AnsN (m : M) (r : Option (Nat × Nat)) (N : Nat) : Prop := ∃ n, n ≤ N ∧ match r with
  | none => (m.runFor n).outcome = some .failed
  | some (b, e) => (m.runFor n).outcome = some .matched ∧ (m.runFor n).start = b ∧ (m.runFor n).handed = e
theorem AnsN.ans {m : M} {r : Option (Nat × Nat)} {N : Nat} (h : AnsN m r N) (hN : N ≤ 2 ^ 60) : Ans m r := by
  obtain ⟨n, hn, h⟩ := h
  cases r with
  | none => exact .no n (by omega) h
  | some p => exact .yes n p.1 p.2 (by omega) h.1 h.2.1 h.2.2
theorem AnsN.step {m m' : M} {r : Option (Nat × Nat)} {N : Nat} (ho : m.outcome = none) (e : m.step = m') (h : AnsN m' r N) : AnsN m r (N + 1) := by
  obtain ⟨n, hn, h⟩ := h
  refine ⟨n + 1, by omega, ?_⟩
  have q : m.runFor (n + 1) = m'.runFor n := by rw [M.runFor, ho]; show M.runFor n m.step = _; rw [e]
  rw [q]; exact h
theorem AnsN.mono {m : M} {r : Option (Nat × Nat)} {N N' : Nat} (h : AnsN m r N) (hN : N ≤ N') : AnsN m r N' := let ⟨n, hn, x⟩ := h; ⟨n, Nat.le_trans hn hN, x⟩
theorem AnsN.no {m : M} (ho : m.outcome = none) (hf : m.frames = []) (ha : m.answer = some false) : AnsN m none 1 := by
  refine ⟨1, Nat.le_refl _, ?_⟩
  show (m.runFor 1).outcome = _
  rw [M.runFor, ho]
  show m.step.outcome = _
  unfold M.step
  rw [ho, ha, hf]
  rfl
noncomputable def findA (text : Array Nat) : Nat → Nat → Option Nat
  | 0, _ => none
  | k + 1, s => if (bol text s && (decide (s < text.size) && text.getD s 0 == 46)) = true then some s else findA text k (s + 1)
theorem ansA {text : Array Nat} : ∀ (k s : Nat) (must first : Bool) (seen : Sre.Seen), text.size + 1 - s = k + 1 → AnsN (stA text must first s seen) ((findA text (k + 1) s).map fun p => (p, p + 1)) (4 * k + 8) := by
  intro k
  induction k with
  | zero =>
    intro s must first seen hk
    have hs : ¬ s < text.size := by omega
    have e : findA text (0 + 1) s = none := by
      unfold findA; rw [if_neg (by simp [hs])]; rfl
    rw [e]
    have fin : ∀ pc seen', AnsN ({ stA text must first s seen' with pc := pc, answer := some false } : M) none 2 := fun pc seen' => AnsN.step rfl (A2n hs) (AnsN.no rfl rfl rfl)
    cases hb : bol text s with
    | false =>
      refine (AnsN.step (m' := { stA text must first s seen with seen := (seen.add 6).add 44, answer := some false }) rfl (by rw [A1, hb]; rfl) ?_).mono (N := 3) (by omega)
      exact fin 5 ((seen.add 6).add 44)
    | true =>
      refine (AnsN.step (m' := { stA text must first s ((seen.add 6).add 44) with pc := 7 }) rfl (by rw [A1, hb]; rfl) ?_).mono (N := 4) (by omega)
      exact AnsN.step (m' := { stA text must first s (((seen.add 6).add 44).add 16) with pc := 7, answer := some false }) rfl (by rw [A3, if_pos (by omega)]; rfl) (fin 7 _)
  | succ k ih =>
    intro s must first seen hk
    have hs : s < text.size := by omega
    have next : ∀ pc seen', AnsN ({ stA text must first s seen' with pc := pc, answer := some false } : M) ((findA text (k + 1) (s + 1)).map fun p => (p, p + 1)) (4 * k + 9) := fun pc seen' =>
      AnsN.step (m' := stA text false false (s + 1) seen') rfl (by
        show (if s < text.size then _ else _) = _
        rw [if_pos hs]; rfl) (ih (s + 1) false false seen' (by omega))
    cases hb : bol text s with
    | false =>
      have e : findA text (k + 1 + 1) s = findA text (k + 1) (s + 1) := by rw [findA, hb]; rfl
      rw [e]
      refine (AnsN.step (m' := { stA text must first s seen with seen := (seen.add 6).add 44, answer := some false }) rfl (by rw [A1, hb]; rfl) ?_).mono (N := 4 * k + 10) (by omega)
      exact next 5 ((seen.add 6).add 44)
    | true =>
      refine (AnsN.step (m' := { stA text must first s ((seen.add 6).add 44) with pc := 7 }) rfl (by rw [A1, hb]; rfl) ?_).mono (N := 4 * k + 12) (by omega)
      cases hc : text.getD s 0 == 46 with
      | false =>
        have e : findA text (k + 1 + 1) s = findA text (k + 1) (s + 1) := by rw [findA, hb, hc]; simp
        rw [e]
        refine (AnsN.step (m' := { stA text must first s (((seen.add 6).add 44).add 16) with pc := 7, answer := some false }) rfl (by rw [A3, if_neg (by omega), hc]; rfl) (next 7 _)).mono (by omega)
      | true =>
        have e : findA text (k + 1 + 1) s = some s := by rw [findA, hb, hc]; simp [hs]
        rw [e]
        refine (AnsN.step (N := 3) (m' := { stA text must first s (((seen.add 6).add 44).add 16) with pc := 9, pos := s + 1 }) rfl (by rw [A3, if_neg (by omega), hc]; rfl) ?_).mono (by omega)
        refine AnsN.step rfl A4 ?_
        exact ⟨2, Nat.le_refl _, rfl, rfl, rfl⟩
theorem searchA {text : Array Nat} {start : Nat} {must : Bool} (hn : text.size ≤ 2 ^ 50) : Ans (Sre.forSearch codeA text 0 start text.size must) (if text.size ≤ start then none else (findA text (text.size + 1 - start) start).map fun p => (p, p + 1)) := by
  unfold Sre.forSearch
  dsimp only
  by_cases h : text.size ≤ start
  · rw [if_pos h, if_pos]
    · exact say_no rfl rfl
    · show (decide (start > text.size) || decide (text.size - start < 1)) = true
      simp; omega
  · rw [if_neg h, if_neg]
    · have := ansA (text := text) (text.size - start) start must true (Sre.Seen.add {} 14) (by omega)
      rw [show text.size - start + 1 = text.size + 1 - start by omega] at this
      exact AnsN.ans (m := stA text must true start (Sre.Seen.add {} 14)) this (by omega)
    · show ¬ (decide (start > text.size) || decide (text.size - start < 1)) = true
      simp; omega
end Mine
end
end
section
set_option Elab.async false
noncomputable section
open PySem PySem.W PySem.Calls PyProof.Rows PySem.Builtin PySem.Builtin.Re
set_option maxRecDepth 100000
set_option linter.unusedVariables false
namespace Mine
open Sre (M)
noncomputable def fr0 (first : Bool) (s : Nat) : Sre.Frame := { wait := .nextStart, pc := 10, pos := s, outermost := first }
noncomputable def fr1 (first : Bool) (s pc : Nat) : Sre.Frame := { wait := .nextBranch, pc := pc, pos := s, outermost := first, kept := { lastmark := -1, lastindex := -1, whole := false, marks := #[] } }
/-- the machine for line ends, inside an attempt at s -/
noncomputable def stB (text : Array Nat) (first : Bool) (s pc pos weight : Nat) (out : Bool) (frames : List Sre.Frame) (handed : Nat) (ans : Option Bool) (seen : Sre.Seen) : M :=
  { code := codeB, text := text, lim := text.size, start := s, lastStart := text.size, wholeText := false, mustAdvance := false, pc := pc, pos := pos, handed := handed, outermost := out, marks := Array.replicate (2 * 0) none, lastmark := -1, lastindex := -1, loops := #[], inner := none,
    frames := frames, weight := weight, answer := ans, seen := seen, outcome := none }
section
variable {text : Array Nat} {first : Bool} {s : Nat} {seen : Sre.Seen}
theorem b_branch : (stB text first s 10 s 1 first [fr0 first s] s none seen).step = stB text first s 12 s 2 first [fr1 first s 11, fr0 first s] s none (seen.add 7) := by rfl
theorem b_lit (pc pos weight : Nat) (out : Bool) (frames : List Sre.Frame) (hd : Nat) (hp : pc = 12 ∨ pc = 14 ∨ pc = 19 ∨ pc = 24 ∨ pc = 29) :
    (stB text first s pc pos weight out frames hd none seen).step = if pos ≥ text.size then stB text first s pc pos weight out frames hd (some false) (seen.add 16) else
      bif (text.getD pos 0 == codeB.getD (pc + 1) 0) then stB text first s (pc + 2) (pos + 1) weight out frames hd none (seen.add 16) else stB text first s pc pos weight out frames hd (some false) (seen.add 16) := by
  have e : ∀ pc, (pc = 12 ∨ pc = 14 ∨ pc = 19 ∨ pc = 24 ∨ pc = 29) → (stB text first s pc pos weight out frames hd none seen).step = if pos ≥ text.size then stB text first s pc pos weight out frames hd (some false) (seen.add 16) else
      accM (stB text first s pc pos weight out frames hd none (seen.add 16)) (.ok (text.getD pos 0 == codeB.getD (pc + 1) 0, seen.add 16)) := by
    rintro pc (rfl | rfl | rfl | rfl | rfl) <;> rfl
  rw [e pc hp]
  split
  · rfl
  · cases h : (text.getD pos 0 == codeB.getD (pc + 1) 0) with
    | false => rfl
    | true => rcases hp with rfl | rfl | rfl | rfl | rfl <;> rfl
theorem b_jump (pc pos weight : Nat) (out : Bool) (frames : List Sre.Frame) (hd : Nat) (hp : pc = 16 ∨ pc = 21 ∨ pc = 32) :
    (stB text first s pc pos weight out frames hd none seen).step = stB text first s 35 pos weight out frames hd none (seen.add 15) := by
  rcases hp with rfl | rfl | rfl <;> rfl
theorem b_next (pc pos : Nat) (out : Bool) (hd : Nat) :
    (stB text first s pc pos 2 out [fr1 first s 11, fr0 first s] hd (some false) seen).step = stB text first s 19 s 2 first [fr1 first s 18, fr0 first s] s none seen := by rfl
theorem b_next2 (pc pos : Nat) (out : Bool) (hd : Nat) :
    (stB text first s pc pos 2 out [fr1 first s 18, fr0 first s] hd (some false) seen).step = stB text first s 24 s 2 first [fr1 first s 23, fr0 first s] s none seen := by rfl
theorem b_win (pc' pos : Nat) (hd : Nat) (pc : Nat) (hp : pos ≠ s) :
    AnsN (stB text first s 35 pos 2 first [fr1 first s pc', fr0 first s] hd none seen) (some (s, pos)) 4 := by
  have h : (pos == s) = false := by simpa using hp
  refine ⟨4, Nat.le_refl _, ?_⟩
  have e1 : (stB text first s 35 pos 2 first [fr1 first s pc', fr0 first s] hd none seen).step = stB text first s 35 pos 2 first [fr1 first s pc', fr0 first s] pos (some true) (seen.add 1) := by
    show (if (first && ((false && (pos != text.size)) || (false && (pos == s)))) = true then _ else _) = _
    simp only [Bool.false_and, Bool.or_false, Bool.and_false, Bool.false_eq_true, if_false]
    rfl
  have e : (stB text first s 35 pos 2 first [fr1 first s pc', fr0 first s] hd none seen).runFor 4 = (stB text first s 35 pos 2 first [fr1 first s pc', fr0 first s] pos (some true) (seen.add 1)).runFor 3 := by
    rw [M.runFor]; show M.runFor 3 (M.step _) = _; rw [e1]
  rw [e]
  exact ⟨rfl, rfl, rfl⟩
end
end Mine
end
end
section
set_option Elab.async false
noncomputable section
open PySem PySem.W PySem.Calls PyProof.Rows PySem.Builtin PySem.Builtin.Re
set_option maxRecDepth 100000
set_option linter.unusedVariables false
namespace Mine
open Sre (M inSet)
noncomputable def frL (first : Bool) (p : Nat) : Sre.Frame := { wait := .lookNot, pc := 26, pos := p, outermost := first, kept := { lastmark := -1, lastindex := -1, whole := false, marks := #[] } }
noncomputable def endB (text : Array Nat) (s : Nat) : Nat := if (text.getD s 0 == 13 && (decide (s + 1 < text.size) && text.getD (s + 1) 0 == 10)) = true then s + 2 else s + 1
section
variable {text : Array Nat} {first : Bool} {s : Nat} {seen : Sre.Seen}
theorem b_assert (hd : Nat) : (stB text first s 26 (s + 1) 2 first [fr1 first s 23, fr0 first s] hd none seen).step = stB text first s 29 (s + 1) 3 false [frL first (s + 1), fr1 first s 23, fr0 first s] (s + 1) none (seen.add 5) := by rfl
theorem b_lookno (pc pos hd : Nat) : (stB text first s pc pos 3 false [frL first (s + 1), fr1 first s 23, fr0 first s] hd (some false) seen).step = stB text first s 32 (s + 1) 2 first [fr1 first s 23, fr0 first s] hd none seen := by rfl
theorem ansB (hs : s < text.size) (hc : text.getD s 0 = 10 ∨ text.getD s 0 = 13) : AnsN (stB text first s 10 s 1 first [fr0 first s] s none seen) (some (s, endB text s)) 30 := by
  have hs' : ¬ s ≥ text.size := by omega
  refine (AnsN.step (N := 20) rfl b_branch ?_).mono (by omega)
  rcases hc with hc | hc
  · have e : endB text s = s + 1 := by unfold endB; rw [hc]; rfl
    rw [e]
    refine (AnsN.step (N := 12) (m' := stB text first s 12 s 2 first [fr1 first s 11, fr0 first s] s (some false) ((seen.add 7).add 16)) rfl (by rw [b_lit 12 _ _ _ _ _ (by simp), if_neg hs', hc]; rfl) ?_).mono (by omega)
    refine AnsN.step (N := 11) rfl (b_next ..) ?_
    refine AnsN.step (N := 10) (m' := stB text first s 21 (s + 1) 2 first [fr1 first s 18, fr0 first s] s none (((seen.add 7).add 16).add 16)) rfl (by rw [b_lit 19 _ _ _ _ _ (by simp), if_neg hs', hc]; rfl) ?_
    refine AnsN.step (N := 9) rfl (b_jump 21 _ _ _ _ _ (by simp)) ?_
    exact (b_win _ _ _ 0 (by omega)).mono (by omega)
  · refine (AnsN.step (N := 18) (m' := stB text first s 14 (s + 1) 2 first [fr1 first s 11, fr0 first s] s none ((seen.add 7).add 16)) rfl (by rw [b_lit 12 _ _ _ _ _ (by simp), if_neg hs', hc]; rfl) ?_).mono (by omega)
    have other : ∀ sn, (s + 1 ≥ text.size ∨ (text.getD (s + 1) 0 == 10) = false) → AnsN (stB text first s 14 (s + 1) 2 first [fr1 first s 11, fr0 first s] s (some false) sn) (some (s, s + 1)) 16 := fun sn hq => by
      refine AnsN.step (N := 15) rfl (b_next ..) ?_
      refine AnsN.step (N := 14) (m' := stB text first s 19 s 2 first [fr1 first s 18, fr0 first s] s (some false) (sn.add 16)) rfl (by rw [b_lit 19 _ _ _ _ _ (by simp), if_neg hs', hc]; rfl) ?_
      refine AnsN.step (N := 13) rfl (b_next2 ..) ?_
      refine AnsN.step (N := 12) (m' := stB text first s 26 (s + 1) 2 first [fr1 first s 23, fr0 first s] s none ((sn.add 16).add 16)) rfl (by rw [b_lit 24 _ _ _ _ _ (by simp), if_neg hs', hc]; rfl) ?_
      refine AnsN.step (N := 11) rfl (b_assert ..) ?_
      refine AnsN.step (N := 10) (m' := stB text first s 29 (s + 1) 3 false [frL first (s + 1), fr1 first s 23, fr0 first s] (s + 1) (some false) ((((sn.add 16).add 16).add 5).add 16)) rfl (by
        rw [b_lit 29 _ _ _ _ _ (by simp)]
        rcases hq with hq | hq
        · rw [if_pos hq]
        · split
          · rfl
          · rw [show codeB.getD (29 + 1) 0 = 10 from rfl, hq]; rfl) ?_
      refine AnsN.step (N := 9) rfl (b_lookno ..) ?_
      refine AnsN.step (N := 8) rfl (b_jump 32 _ _ _ _ _ (by simp)) ?_
      exact (b_win _ _ _ 0 (by omega)).mono (by omega)
    by_cases h1 : s + 1 ≥ text.size
    · have e : endB text s = s + 1 := by unfold endB; rw [show decide (s + 1 < text.size) = false from decide_eq_false (by omega)]; simp
      rw [e]
      refine (AnsN.step (N := 16) (m' := stB text first s 14 (s + 1) 2 first [fr1 first s 11, fr0 first s] s (some false) (((seen.add 7).add 16).add 16)) rfl (by rw [b_lit 14 _ _ _ _ _ (by simp), if_pos h1]) (other _ (.inl h1))).mono (by omega)
    · cases h2 : text.getD (s + 1) 0 == 10 with
      | false =>
        have e : endB text s = s + 1 := by unfold endB; rw [h2]; simp
        rw [e]
        refine (AnsN.step (N := 16) (m' := stB text first s 14 (s + 1) 2 first [fr1 first s 11, fr0 first s] s (some false) (((seen.add 7).add 16).add 16)) rfl (by rw [b_lit 14 _ _ _ _ _ (by simp), if_neg h1, show codeB.getD (14 + 1) 0 = 10 from rfl, h2]; rfl) (other _ (.inr h2))).mono (by omega)
      | true =>
        have e : endB text s = s + 2 := by unfold endB; rw [hc, h2, show decide (s + 1 < text.size) = true from decide_eq_true (by omega)]; rfl
        rw [e]
        refine (AnsN.step (N := 9) (m' := stB text first s 16 (s + 2) 2 first [fr1 first s 11, fr0 first s] s none (((seen.add 7).add 16).add 16)) rfl (by rw [b_lit 14 _ _ _ _ _ (by simp), if_neg h1, show codeB.getD (14 + 1) 0 = 10 from rfl, h2]; rfl) ?_).mono (by omega)
        refine AnsN.step (N := 8) rfl (b_jump 16 _ _ _ _ _ (by simp)) ?_
        exact (b_win _ _ _ 0 (by omega)).mono (by omega)
end
noncomputable def isNl (c : Nat) : Bool := c == 10 || c == 13
noncomputable def findB (text : Array Nat) : Nat → Nat → Option Nat
  | 0, _ => none
  | k + 1, s => if s ≥ text.size then none else bif isNl (text.getD s 0) then some s else findB text k (s + 1)
theorem inB (c : Nat) (seen : Sre.Seen) : ∃ seen', inSet codeB c codeB.size 5 true seen = .ok (isNl c, seen') := by
  show ∃ seen', inSet codeB c 36 5 true seen = _
  rw [inSet]
  show ∃ seen', (if (c == 10) = true then _ else inSet codeB c 35 7 true (seen.add 16)) = _
  unfold isNl
  cases h : c == 10 with
  | true => exact ⟨_, rfl⟩
  | false =>
    rw [if_neg Bool.false_ne_true, inSet]
    show ∃ seen', (if (c == 13) = true then _ else inSet codeB c 34 9 true ((seen.add 16).add 16)) = _
    cases h : c == 13 with
    | true => exact ⟨_, rfl⟩
    | false => rw [if_neg Bool.false_ne_true, inSet]; exact ⟨_, rfl⟩
theorem admB {m : M} (hc : m.code = codeB) (hl : m.lim = m.text.size) : ∀ (fuel s : Nat) (seen : Sre.Seen), ∃ seen', m.admitted fuel s seen = .ok (findB m.text fuel s, seen')
  | 0, s, seen => ⟨seen, rfl⟩
  | fuel + 1, s, seen => by
    unfold M.admitted findB
    rw [hl]
    by_cases q : s ≥ m.text.size
    · rw [if_pos q, if_pos q]; exact ⟨seen, rfl⟩
    · rw [if_neg q, if_neg q, hc]
      obtain ⟨seen₁, e⟩ := inB (m.text.getD s 0) seen
      rw [e]
      cases isNl (m.text.getD s 0) with
      | true => exact ⟨_, rfl⟩
      | false => exact admB hc hl fuel (s + 1) seen₁
theorem admB_case {m : M} {fuel s : Nat} {seen : Sre.Seen} {f : Nat → Sre.Seen → M} {g : Sre.Seen → M} {k : String → M} (P : Option Nat → M → Prop) (hc : m.code = codeB) (hl : m.lim = m.text.size) (hf : ∀ p seen', findB m.text fuel s = some p → P (some p) (f p seen')) (hg : ∀ seen', P none (g seen')) :
    P (findB m.text fuel s) (match m.admitted fuel s seen with | .ok (some s, seen) => f s seen | .ok (none, seen) => g seen | .error why => k why) := by
  obtain ⟨seen', e⟩ := admB hc hl fuel s seen
  rw [e]
  cases h : findB m.text fuel s with
  | none => exact hg seen'
  | some p => exact hf p seen' h
theorem findB_spec {text : Array Nat} : ∀ {k s p : Nat}, findB text k s = some p → p < text.size ∧ isNl (text.getD p 0) = true ∧ s ≤ p
  | 0, _, _, h => by cases h
  | k + 1, s, p, h => by
    unfold findB at h
    split at h
    · cases h
    · cases q : isNl (text.getD s 0) with
      | true => rw [q] at h; cases h; exact ⟨by omega, q, Nat.le_refl _⟩
      | false => rw [q] at h; obtain ⟨a, b, c⟩ := findB_spec h; exact ⟨a, b, by omega⟩
theorem searchB {text : Array Nat} {start : Nat} {must : Bool} : Ans (Sre.forSearch codeB text 0 start text.size must) (if text.size ≤ start then none else (findB text (text.size + 1 - start) start).map fun p => (p, endB text p)) := by
  unfold Sre.forSearch
  dsimp only
  by_cases h : text.size ≤ start
  · rw [if_pos h, if_pos]
    · exact say_no rfl rfl
    · show (decide (start > text.size) || decide (text.size - start < 1)) = true
      simp; omega
  · rw [if_neg h, if_neg]
    · unfold M.attemptFrom
      rw [if_neg (by
        show ¬ (!((match Sre.ops[codeB.getD 0 0]? with | some .INFO => true | _ => false) && codeB.getD 2 0 == 4)) = true
        decide)]
      refine admB_case (fun r m => Ans m (r.map fun p => (p, endB text p))) rfl rfl (fun p seen' hp => ?_) fun seen' => say_no rfl rfl
      obtain ⟨a, b, _⟩ := findB_spec (text := text) hp
      have hc : text.getD p 0 = 10 ∨ text.getD p 0 = 13 := by
        unfold isNl at b; simpa using b
      exact AnsN.ans (ansB (first := true) (seen := seen') a hc) (by omega)
    · show ¬ (decide (start > text.size) || decide (text.size - start < 1)) = true
      simp; omega
end Mine
end
end
section
set_option Elab.async false
noncomputable section
open PySem PySem.W PySem.Calls PyProof.Rows PySem.Builtin PySem.Builtin.Re
set_option maxRecDepth 100000
set_option linter.unusedVariables false
namespace Mine
/-- every place that fnd tells, replaced -/
noncomputable def subR (text : Array Nat) (rep : List Nat) (fnd : Nat → Option (Nat × Nat)) : Nat → Nat → List Nat
  | 0, p => text.toList.drop p
  | k + 1, p => match fnd p with
    | some (b, e) => (text.toList.take b).drop p ++ rep ++ subR text rep fnd k e
    | none => text.toList.drop p
theorem strs_snoc : ∀ {vs : List Value} {ys : List Str} {y : Str} {t : Tok}, StrsAre vs ys → StrsAre (vs ++ [.str y t]) (ys ++ [y])
  | _, _, _, _, .nil => .cons _ _ .nil
  | _, _, _, _, .cons a b h => .cons a b (strs_snoc h)
theorem join_flat : ∀ ys : List Str, (Txt.join ⟨#[]⟩ ys).cps.toList = ys.flatMap (·.cps.toList)
  | [] => rfl
  | y :: ys => by
    have h := join_flat ys
    unfold Txt.join at h ⊢
    rw [StrLaws.glued_eq_join] at h ⊢
    rw [PyProof.Rows.join_nil_cons, List.flatMap_cons, ← h]
    show (y.cps ++ _).toList = _
    simp
theorem ext_list {x : Array Nat} {b e : Nat} : (x.extract b e).toList = (x.toList.take e).drop b := by
  rw [Array.toList_extract, List.extract_eq_take_drop, List.take_drop]
  rcases Nat.le_total b e with h | h
  · rw [Nat.add_sub_cancel' h]
  · rw [Nat.sub_eq_zero_of_le h, Nat.add_zero, List.drop_eq_nil_of_le (by simp; omega), List.drop_eq_nil_of_le (by simp; omega)]
section
variable {prog : Program} {w : World} {A : Around} {s : Shared} {E : Value → Shared → Prop}
theorem whole {a : Addr} {code : Array Nat} {x : Str} {t : Tok} (P : Pat s.heap a code) {Q : ReTarget → Shared → Prop}
    (h : Q { pattern := .ref a, string := .str x t, code := code, text := x.cps, kind := 0, groups := 0, pos := 0, lim := x.cps.size } s) :
    wpAny (model prog w) A (reWholeTarget (.ref a) (.str x t)) Q E s := by
  obtain ⟨p, fl, b, its, n, e1, e2, e3⟩ := P.obj
  unfold reWholeTarget
  refine wpAny_bind (wpAny_fieldsOf e1 rfl ?_)
  refine wpAny_bind (wpAny_pure ?_)
  dsimp only
  show wpAny _ _ (reNoCollectionInside (.str x t) 0 >>= _) _ _ _
  refine wpAny_bind (wpAny_pure ?_)
  refine wpAny_bind (wpAny_bind (wpAny_seqItems e2 rfl (wpAny_pure ?_)))
  refine wpAny_pure ?_
  show Q { pattern := .ref a, string := .str x t, code := (its.map reRawOf).map (·.toNat), text := x.cps, kind := 0, groups := 0, pos := 0, lim := x.cps.size } s
  rw [e3]; exact h
theorem push_piece {D₀ : Addr} {vs : List Value} {v : Value} {Q : Unit → Shared → Prop} (pl : s.heap.PlainList D₀ vs.toArray) (hn : vs.length ≤ 1000000)
    (h : ∀ h', h'.PlainList D₀ (vs ++ [v]).toArray → SubB [D₀] s.heap h' → Q () { s with heap := h' }) : wpAny (model prog w) A (updateSeq D₀ (·.push v)) Q E s := by
  obtain ⟨n, eo⟩ := pl
  refine wpAny_updateSeq eo rfl (h _ ⟨n + 1, ?_⟩ fun b o nb e => sameBut_get (Heap.SameBut.update ..) (by simpa using nb) e) (by simp [sizeLine]; omega) (by simp [sizeLine]; omega)
  rw [Heap.get?_update_self _ eo (by rw [Obj.mapSeq_push_plain]; rfl), Obj.mapSeq_push_plain]
  simp
theorem sub_loop {a : Addr} {code : Array Nat} {x r : Str} {t u : Tok} {R : Result → Shared → Prop} {fnd : Nat → Option (Nat × Nat)} (hx : x.cps.size ≤ 100000) (hr : r.cps.size ≤ 10)
    (hf : ∀ p, p ≤ x.cps.size → Ans (Sre.forSearch code x.cps 0 p x.cps.size false) (fnd p)) (hs : ∀ p b e, fnd p = some (b, e) → p ≤ b ∧ b < e ∧ e ≤ x.cps.size) :
    ∀ (k p n : Nat) (s : Shared) (D₀ : Addr) (vs : List Value) (ys : List Str), x.cps.size < p + k → p ≤ x.cps.size → Pat s.heap a code → (∀ h', SubB [D₀] s.heap h' → Pat h' a code) → s.heap.PlainList D₀ vs.toArray → StrsAre vs ys → vs.length ≤ 2 * p → (ys.map (·.length)).sum ≤ 11 * p →
      (∀ h' tk t' (y : Str), SubB [D₀] s.heap h' → y.cps.toList = ys.flatMap (·.cps.toList) ++ subR x.cps r.cps.toList fnd k p → R (.ok (.ret (.str y t'))) { s with heap := h', toks := tk }) →
      codeAny (model prog w) A (.builtin "re.Pattern.sub.loop" ⟨[.ref a, .str x t, .str r u, .int 0 0, .int 0 0, .int n 0, .int p 0, .int p 0, .bool false, .ref D₀, .bool false], []⟩) R s := by
  intro k
  induction k with
  | zero => intro p n s D₀ vs ys h1 h2; omega
  | succ k ih =>
    intro p n s D₀ vs ys h1 h2 P hP pl hst hlen hsum hR
    refine codeAny_builtin entry_re_sub_loop ?_
    rw [Around.under_plainId plain_re_sub_loop _]
    unfold «re.Pattern.sub.loop»
    dsimp only
    refine wpAny_bind (whole P ?_)
    rw [if_pos (show ((0 : Int) == 0) = true from rfl)]
    refine wpAny_bind (m := reLiteralCannotBeTurned (.str r u)) (wpAny_pure ?_)
    rw [if_neg (show ¬ ((0 : Int) != 0 && decide ((n : Int) ≥ 0)) = true by simp), Int.toNat_natCast]
    refine wpAny_bind (runEnd (hf p h2) fun o ho => ?_)
    cases hfp : fnd p with
    | none =>
      rw [hfp] at ho
      cases o with
      | some m => exact ho.elim
      | none =>
        dsimp only
        have fin : ∀ (h₁ : Heap) (tk₁ : Nat) (vs₁ : List Value) (ys₁ : List Str), SubB [D₀] s.heap h₁ → h₁.PlainList D₀ vs₁.toArray → StrsAre vs₁ ys₁ → vs₁.length ≤ 2 * p + 1 → (ys₁.map (·.length)).sum ≤ 12 * x.cps.size → ys₁.flatMap (·.cps.toList) = ys.flatMap (·.cps.toList) ++ x.cps.toList.drop p →
            wpAny (model prog w) A.in1 (do
              let joiner ← reSlice x.cps 0 0 0
              let __do_lift ← seqItems? (.ref D₀)
              if (__do_lift.getD #[]).isEmpty = true then do
                  let text ← pure joiner
                  if false = true then do ret (← holding [text] do newTuple [text, ← mkInt n]) else ret text
                else do
                  let text ← call (.builtin (if ((0 : Nat) == 0) = true then "str.join" else "bytes.join")) [joiner, .ref D₀]
                  if false = true then do ret (← holding [text] do newTuple [text, ← mkInt n]) else ret text)
              (fun fin s' => match fin with | .done f => R (.ok f) s' | .again c' => c'.quiet = true ∧ codeAny (model prog w) A c' R s') (fun e s' => R (.error e) s') { s with heap := h₁, toks := tk₁ } := by
          intro h₁ tk₁ vs₁ ys₁ sb pl₁ st₁ hl₁ hs₁ hy
          have eR : subR x.cps r.cps.toList fnd (k + 1) p = x.cps.toList.drop p := by rw [subR, hfp]
          refine wpAny_bind (wpAny_mkStr (x := ⟨x.cps.extract 0 0⟩) ?_ (by show (x.cps.extract 0 0).size ≤ _; simp))
          have e0 : (⟨x.cps.extract 0 0⟩ : Str) = ⟨#[]⟩ := by simp
          rw [e0]
          obtain ⟨nn, eo⟩ := id pl₁
          refine wpAny_bind (wpAny_seqItems eo rfl ?_)
          cases vs₁ with
          | nil =>
            cases st₁
            rw [if_pos (show ((some (#[] : Array Value)).getD #[]).isEmpty = true from rfl)]
            refine wpAny_bind (wpAny_pure ?_)
            rw [if_neg Bool.false_ne_true]
            exact wpAny_pure (hR h₁ _ _ _ sb (by rw [eR, ← hy]; rfl))
          | cons v vs' =>
            rw [if_neg (by simp)]
            refine wpAny_bind (PyProof.Rows.join_list (pl₁.isList) st₁ ?_ fun t' k' => ?_)
            · show _ + _ * 0 ≤ _
              omega
            · rw [if_neg Bool.false_ne_true]
              refine wpAny_pure (hR h₁ _ _ _ sb ?_)
              rw [join_flat, eR, ← hy]
        by_cases hlt : p < x.cps.size
        · rw [if_pos hlt]
          refine wpAny_bind (wpAny_mkStr (x := ⟨x.cps.extract p x.cps.size⟩) ?_ (by show (x.cps.extract p x.cps.size).size ≤ _; simp [sizeLine]; omega))
          refine wpAny_bind (push_piece pl (by omega) fun h₁ pl₁ sb₁ => ?_)
          refine fin h₁ _ _ _ sb₁ pl₁ (strs_snoc hst) (by simp; omega) ?_ ?_
          · rw [List.map_append, List.sum_append]
            have : (Str.length ⟨x.cps.extract p x.cps.size⟩) ≤ x.cps.size := by show (x.cps.extract p x.cps.size).size ≤ _; simp
            simp only [List.map_cons, List.map_nil, List.sum_cons, List.sum_nil]
            omega
          · rw [List.flatMap_append]
            simp only [List.flatMap_cons, List.flatMap_nil, List.append_nil]
            rw [ext_list]
            congr 1
            rw [show x.cps.size = x.cps.toList.length by simp, List.take_length]
        · rw [if_neg hlt]
          refine fin s.heap s.toks vs ys (SubB.refl _ _) pl hst (by omega) (by omega) ?_
          rw [List.drop_eq_nil_of_le (by simp; omega), List.append_nil]
    | some be =>
      obtain ⟨b, e⟩ := be
      rw [hfp] at ho
      cases o with
      | none => exact ho.elim
      | some m =>
        obtain ⟨hb, he⟩ := ho
        obtain ⟨q1, q2, q3⟩ := hs p b e hfp
        dsimp only
        rw [hb, he]
        have hne : (e == b) = false := by simp; omega
        rw [hne]
        have eR : subR x.cps r.cps.toList fnd (k + 1) p = (x.cps.toList.take b).drop p ++ r.cps.toList ++ subR x.cps r.cps.toList fnd k e := by rw [subR, hfp]
        have tail : ∀ (h₁ : Heap) (tk₁ : Nat) (vs₁ : List Value) (ys₁ : List Str), SubB [D₀] s.heap h₁ → h₁.PlainList D₀ vs₁.toArray → StrsAre vs₁ ys₁ → vs₁.length ≤ 2 * p + 1 → (ys₁.map (·.length)).sum ≤ 11 * p + (b - p) → ys₁.flatMap (·.cps.toList) = ys.flatMap (·.cps.toList) ++ (x.cps.toList.take b).drop p →
            wpAny (model prog w) A.in1 (do
              let item ← pure (Value.str r u)
              if (item != Value.none) = true then do
                updateSeq D₀ fun x => x.push item
                again (.builtin "re.Pattern.sub.loop" ⟨[.ref a, .str x t, .str r u, rawInt 0, rawInt 0, rawInt (n + 1), rawInt e, rawInt e, .bool false, .ref D₀, .bool false], []⟩)
              else again (.builtin "re.Pattern.sub.loop" ⟨[.ref a, .str x t, .str r u, rawInt 0, rawInt 0, rawInt (n + 1), rawInt e, rawInt e, .bool false, .ref D₀, .bool false], []⟩))
              (fun fin s' => match fin with | .done f => R (.ok f) s' | .again c' => c'.quiet = true ∧ codeAny (model prog w) A c' R s') (fun e s' => R (.error e) s') { s with heap := h₁, toks := tk₁ } := by
          intro h₁ tk₁ vs₁ ys₁ sb pl₁ st₁ hl₁ hs₁ hy
          refine wpAny_bind (wpAny_pure ?_)
          rw [if_pos (show (Value.str r u != Value.none) = true from rfl)]
          refine wpAny_bind (push_piece pl₁ (by omega) fun h₂ pl₂ sb₂ => ?_)
          refine wpAny_pure ⟨plainId_quiet plain_re_sub_loop _, ?_⟩
          have sb' : SubB [D₀] s.heap h₂ := sb.trans sb₂
          refine ih e (n + 1) { s with heap := h₂, toks := tk₁ } D₀ _ (ys₁ ++ [r]) (by omega) q3 (hP _ sb') (fun h' q => hP h' (sb'.trans q)) pl₂ (strs_snoc st₁) (by simp; omega) ?_ fun h' tk t' y q hy' => hR h' tk t' y (sb'.trans q) ?_
          · rw [List.map_append, List.sum_append]
            have : r.length ≤ 10 := hr
            simp only [List.map_cons, List.map_nil, List.sum_cons, List.sum_nil]
            omega
          · rw [hy', eR, List.flatMap_append, hy]
            simp
        by_cases hlt : p < b
        · rw [if_pos hlt]
          refine wpAny_bind (wpAny_mkStr (x := ⟨x.cps.extract p b⟩) ?_ (by show (x.cps.extract p b).size ≤ _; simp [sizeLine]; omega))
          refine wpAny_bind (push_piece pl (by omega) fun h₁ pl₁ sb₁ => ?_)
          rw [if_pos (show ((0 : Int) == 0) = true from rfl)]
          refine tail h₁ _ _ _ sb₁ pl₁ (strs_snoc hst) (by simp; omega) ?_ ?_
          · rw [List.map_append, List.sum_append]
            have : (Str.length ⟨x.cps.extract p b⟩) ≤ b - p := by show (x.cps.extract p b).size ≤ _; simp; omega
            simp only [List.map_cons, List.map_nil, List.sum_cons, List.sum_nil]
            omega
          · rw [List.flatMap_append]
            simp only [List.flatMap_cons, List.flatMap_nil, List.append_nil]
            rw [ext_list]
        · rw [if_neg hlt, if_pos (show ((0 : Int) == 0) = true from rfl)]
          refine tail s.heap s.toks vs ys (SubB.refl _ _) pl hst (by omega) (by omega) ?_
          rw [List.drop_eq_nil_of_le (by simp; omega), List.append_nil]
end
end Mine
end
end
section
set_option Elab.async false
noncomputable section
open PySem PySem.W PySem.Calls PyProof.Rows PySem.Builtin PySem.Builtin.Re
set_option maxRecDepth 100000
set_option linter.unusedVariables false
namespace Mine
theorem no_call_str : typeLookup (.type "str") "__call__" = pure none := by rw [typeLookup_type, builtinLookup_eq_fast]; kernel_rfl
section
variable {prog : Program} {w : World} {A : Around} {s : Shared} {E : Value → Shared → Prop}
theorem sub_call {a : Addr} {code : Array Nat} {x r : Str} {t u : Tok} {fnd : Nat → Option (Nat × Nat)} {Q : Value → Shared → Prop} (P : Pat s.heap a code) (hx : x.cps.size ≤ 100000) (hr : r.cps.size ≤ 10) (hlit : r.cps.contains 92 = false)
    (hf : ∀ p, p ≤ x.cps.size → Ans (Sre.forSearch code x.cps 0 p x.cps.size false) (fnd p)) (hs : ∀ p b e, fnd p = some (b, e) → p ≤ b ∧ b < e ∧ e ≤ x.cps.size)
    (h : ∀ h' tk t' (y : Str), Sub s.heap h' → y.cps.toList = subR x.cps r.cps.toList fnd (x.cps.size + 1) 0 → Q (.str y t') { s with heap := h', toks := tk }) :
    wpAny (model prog w) A (call (.builtin "re.Pattern.sub") [.ref a, .str r u, .str x t]) Q E s := by
  obtain ⟨p, fl, b, its, n, e1, e2, e3⟩ := id P.obj
  refine wpAny_call (codeAny_call_builtin slot_re_sub.plain entry_re_sub (slot_re_sub.check _ _ _ _ _ _ _ _ ⟨_, e1, rfl⟩ (args_re_sub _ _ _) ?_))
  unfold «re.Pattern.sub» reSubstitute
  dsimp only
  rw [named2]
  refine wpAny_bind (wpAny_pure ?_)
  dsimp only
  refine wpAny_bind (wpAny_pure ?_)
  refine wpAny_bind (wpAny_specialOf (typeIs_str _ _ _) no_call_str ?_)
  rw [if_neg (show ¬ (Option.none : Option Value).isSome = true by decide)]
  refine wpAny_bind (m := asStr? (.str r u)) (wpAny_pure ?_)
  dsimp only
  rw [hlit]
  refine wpAny_bind (wpAny_pure ?_)
  rw [if_neg (show ¬ (Option.none : Option Value).isSome = true by decide), if_pos (show (!false) = true from rfl)]
  refine wpAny_bind (wpAny_pure ?_)
  refine wpAny_bind (wpAny_holding (whole P ?_))
  rw [if_neg (show ¬ ((0 : Int) == 1) = true by decide)]
  refine wpAny_bind (wpAny_newObj_type ?_ (by show 0 ≤ sizeLine; exact Nat.zero_le _))
  refine wpAny_pure ⟨plainId_quiet plain_re_sub_loop _, ?_⟩
  have hnew : ∀ h', SubB [s.heap.objs.size] (s.heap.push { cls := .type "list", data := .seq ([] : List Value).toArray }) h' → Sub s.heap h' := fun h' k b o e => k b o (by rw [List.mem_singleton]; exact Nat.ne_of_lt (Heap.lt_size e)) (Heap.get?_push_of_some _ e)
  refine sub_loop hx hr hf hs (x.cps.size + 1) 0 0 { s with heap := s.heap.push { cls := .type "list", data := .seq ([] : List Value).toArray } } s.heap.objs.size [] [] (by omega) (by omega) (P.sub fun _ _ e => Heap.get?_push_of_some _ e) (fun h' k => P.sub (hnew h' k)) ⟨0, Heap.get?_push_size _ rfl⟩ .nil (by simp) (by simp) fun h' tk t' y k hy => ?_
  exact h h' tk t' y (hnew h' k) (by simpa using hy)
end
end Mine
end
end
section
set_option Elab.async false
noncomputable section
open PySem PySem.W PySem.Calls PyProof.Rows PySem.Builtin PySem.Builtin.Re
set_option maxRecDepth 100000
set_option linter.unusedVariables false
namespace Mine
/-- every line end as return and feed; b: a return stands ahead -/
noncomputable def nlF : Bool → List Nat → List Nat
  | _, [] => []
  | b, c :: r => if c = 13 then 13 :: 10 :: nlF true r else if c = 10 then (if b = true then nlF false r else 13 :: 10 :: nlF false r) else c :: nlF false r
noncomputable def nl (l : List Nat) : List Nat := nlF false l
/-- a dot at a line's beginning twice -/
noncomputable def dt : Bool → List Nat → List Nat
  | _, [] => []
  | b, c :: r => if (b && c == 46) = true then 46 :: 46 :: dt false r else c :: dt (c == 10) r
noncomputable def fndA (text : Array Nat) (p : Nat) : Option (Nat × Nat) := if text.size ≤ p then none else (findA text (text.size + 1 - p) p).map fun q => (q, q + 1)
noncomputable def fndB (text : Array Nat) (p : Nat) : Option (Nat × Nat) := if text.size ≤ p then none else (findB text (text.size + 1 - p) p).map fun q => (q, endB text q)
theorem getD_drop {x : Array Nat} {p : Nat} (h : p < x.size) : x.toList.drop p = x.getD p 0 :: x.toList.drop (p + 1) := by
  have h' : p < x.toList.length := by simpa using h
  rw [List.drop_eq_getElem_cons h']
  congr 1
  simp [h]
theorem takeD {x : Array Nat} {p q : Nat} (h : p < x.size) (hq : p < q) : (x.toList.take q).drop p = x.getD p 0 :: (x.toList.take q).drop (p + 1) := by
  have h' : p < (x.toList.take q).length := by simp; omega
  rw [List.drop_eq_getElem_cons h']
  congr 1
  simp [h]
theorem findA_none {x : Array Nat} : ∀ (k p : Nat), x.size + 1 ≤ p + k → findA x k p = none → dt (bol x p) (x.toList.drop p) = x.toList.drop p
  | 0, p, h, _ => by rw [List.drop_eq_nil_of_le (by simp; omega)]; rfl
  | k + 1, p, h, e => by
    unfold findA at e
    split at e
    · cases e
    · rename_i hc
      by_cases hp : p < x.size
      · have := findA_none k (p + 1) (by omega) e
        rw [getD_drop hp, dt]
        rw [if_neg (by simpa [hp] using hc)]
        rw [show bol x (p + 1) = (x.getD p 0 == 10) from by unfold bol; simp] at this
        rw [this]
      · rw [List.drop_eq_nil_of_le (by simp; omega)]; rfl
theorem findA_some {x : Array Nat} : ∀ (k p q : Nat), findA x k p = some q → p ≤ q ∧ q < x.size ∧ dt (bol x p) (x.toList.drop p) = (x.toList.take q).drop p ++ [46, 46] ++ dt (bol x (q + 1)) (x.toList.drop (q + 1))
  | 0, _, _, e => by cases e
  | k + 1, p, q, e => by
    unfold findA at e
    split at e
    · rename_i hc
      cases e
      simp only [Bool.and_eq_true, decide_eq_true_eq] at hc
      obtain ⟨h1, h2, h3⟩ := hc
      refine ⟨Nat.le_refl _, h2, ?_⟩
      have h3' : x.getD p 0 = 46 := by simpa using h3
      have e0 : (x.toList.take p).drop p = [] := List.drop_eq_nil_of_le (by simp; omega)
      rw [getD_drop h2, dt, if_pos (by rw [h1, h3]; rfl), e0]
      rw [show bol x (p + 1) = (x.getD p 0 == 10) from by unfold bol; simp, h3']
      rfl
    · rename_i hc
      obtain ⟨a, b, c⟩ := findA_some k (p + 1) q e
      have hp : p < x.size := by omega
      refine ⟨by omega, b, ?_⟩
      rw [getD_drop hp, dt, if_neg (by simpa [hp] using hc), takeD hp (by omega)]
      rw [show bol x (p + 1) = (x.getD p 0 == 10) from by unfold bol; simp] at c
      rw [c]; rfl
theorem subA {x : Array Nat} : ∀ (k p : Nat), x.size < p + k → subR x [46, 46] (fndA x) k p = dt (bol x p) (x.toList.drop p)
  | 0, p, h => by rw [subR, List.drop_eq_nil_of_le (by simp; omega)]; rfl
  | k + 1, p, h => by
    rw [subR]
    unfold fndA
    by_cases hp : x.size ≤ p
    · rw [if_pos hp, List.drop_eq_nil_of_le (by simp; omega)]; rfl
    · rw [if_neg hp]
      cases e : findA x (x.size + 1 - p) p with
      | none => exact (findA_none _ _ (by omega) e).symm
      | some q =>
        obtain ⟨a, b, c⟩ := findA_some _ _ _ e
        rw [c]
        show _ ++ _ ++ subR x [46, 46] (fndA x) k (q + 1) = _
        rw [subA k (q + 1) (by omega)]
theorem nl_other {c : Nat} {r : List Nat} (h : isNl c = false) : nl (c :: r) = c :: nl r := by
  unfold isNl at h
  simp only [Bool.or_eq_false_iff, beq_eq_false_iff_ne] at h
  unfold nl; rw [nlF, if_neg h.2, if_neg h.1]
theorem findB_none {x : Array Nat} : ∀ (k p : Nat), x.size + 1 ≤ p + k → findB x k p = none → nl (x.toList.drop p) = x.toList.drop p
  | 0, p, h, _ => by rw [List.drop_eq_nil_of_le (by simp; omega)]; rfl
  | k + 1, p, h, e => by
    unfold findB at e
    split at e
    · rw [List.drop_eq_nil_of_le (by simp; omega)]; rfl
    · rename_i hp
      have hp' : p < x.size := by omega
      cases q : isNl (x.getD p 0) with
      | true => rw [q] at e; cases e
      | false => rw [q] at e; rw [getD_drop hp', nl_other q, findB_none k (p + 1) (by omega) e]
theorem nlF_true {r : List Nat} (h : r.head? ≠ some 10) : nlF true r = nlF false r := by
  cases r with
  | nil => rfl
  | cons c r =>
    have hc : c ≠ 10 := fun q => h (by rw [q]; rfl)
    rw [nlF, nlF, if_neg hc, if_neg hc]
theorem nl_at {x : Array Nat} {q : Nat} (hq : q < x.size) (hc : isNl (x.getD q 0) = true) : nl (x.toList.drop q) = [13, 10] ++ nl (x.toList.drop (endB x q)) := by
  rw [getD_drop hq]
  unfold isNl at hc
  unfold nl
  by_cases h13 : x.getD q 0 = 13
  · unfold endB
    rw [h13, nlF, if_pos rfl]
    by_cases hl : q + 1 < x.size
    · rw [decide_eq_true hl]
      by_cases h10 : x.getD (q + 1) 0 = 10
      · rw [h10, if_pos (by rfl), getD_drop hl, h10]
        rfl
      · rw [if_neg (by simp only [beq_iff_eq, Bool.and_eq_true, not_and]; intro _ _; simpa using h10)]
        rw [nlF_true (by rw [getD_drop hl]; simpa using h10)]; rfl
    · rw [decide_eq_false hl, if_neg (by simp), List.drop_eq_nil_of_le (by simp; omega)]; rfl
  · have h10 : x.getD q 0 = 10 := by
      rw [Bool.or_eq_true, beq_iff_eq, beq_iff_eq] at hc
      exact hc.resolve_right h13
    unfold endB
    rw [h10, if_neg (by simp), nlF, if_neg (by omega), if_pos rfl]; rfl
theorem findB_some {x : Array Nat} : ∀ (k p q : Nat), findB x k p = some q → p ≤ q ∧ q < x.size ∧ nl (x.toList.drop p) = (x.toList.take q).drop p ++ [13, 10] ++ nl (x.toList.drop (endB x q))
  | 0, _, _, e => by cases e
  | k + 1, p, q, e => by
    unfold findB at e
    split at e
    · cases e
    · rename_i hp
      have hp' : p < x.size := by omega
      cases z : isNl (x.getD p 0) with
      | true =>
        rw [z] at e; cases e
        refine ⟨Nat.le_refl _, hp', ?_⟩
        have e0 : (x.toList.take p).drop p = [] := List.drop_eq_nil_of_le (by simp; omega)
        rw [nl_at hp' z, e0]; rfl
      | false =>
        rw [z] at e
        obtain ⟨a, b, c⟩ := findB_some k (p + 1) q e
        refine ⟨by omega, b, ?_⟩
        rw [getD_drop hp', nl_other z, c, takeD hp' (by omega)]; rfl
theorem endB_gt {x : Array Nat} {q : Nat} (hq : q < x.size) : q < endB x q ∧ endB x q ≤ x.size := by
  unfold endB
  by_cases h : (x.getD q 0 == 13 && (decide (q + 1 < x.size) && x.getD (q + 1) 0 == 10)) = true
  · rw [if_pos h]
    rw [Bool.and_eq_true, Bool.and_eq_true, decide_eq_true_eq] at h
    omega
  · rw [if_neg h]; omega
theorem subB {x : Array Nat} : ∀ (k p : Nat), x.size < p + k → subR x [13, 10] (fndB x) k p = nl (x.toList.drop p)
  | 0, p, h => by rw [subR, List.drop_eq_nil_of_le (by simp; omega)]; rfl
  | k + 1, p, h => by
    rw [subR]
    unfold fndB
    by_cases hp : x.size ≤ p
    · rw [if_pos hp, List.drop_eq_nil_of_le (by simp; omega)]; rfl
    · rw [if_neg hp]
      cases e : findB x (x.size + 1 - p) p with
      | none => exact (findB_none _ _ (by omega) e).symm
      | some q =>
        obtain ⟨a, b, c⟩ := findB_some _ _ _ e
        rw [c]
        show _ ++ _ ++ subR x [13, 10] (fndB x) k (endB x q) = _
        have := endB_gt b
        rw [subB k (endB x q) (by omega)]
end Mine
end
end
section
set_option Elab.async false
noncomputable section
open PySem PySem.W PySem.Calls PyProof.Rows PySem.Builtin PySem.Builtin.Re
set_option maxRecDepth 100000
set_option linter.unusedVariables false
namespace Mine
section
variable {prog : Program} {w : World} {B₀ : Heap} {A : Around} {env : Env} {mu : List Addr} {ρ : List (Str × D)} {pos : Pos} {mg mb : Str → Option Value}
theorem Ev.glbStr (B : Base B₀ mg mb) {x y : Str} {t : Tok} {np : Pos} (hg : Glb mg mb x (.str y t)) (hk : env.kindOf x = some .globalImplicit := by rfl) (hd : (x == ("__debug__" : Str)) = false := by decide +kernel) : Ev prog w B₀ A env mu ρ (.Name x np) (.str y) := fun s E F =>
  loadGlb B F hg hk ⟨.str _ _, Kp.refl s⟩ hd
theorem Ev.resub (B : Base B₀ mg mb) {nm x r y : Str} {a : Addr} {np apos : Pos} {code : Array Nat} {e₁ e₂ : Expr} {fnd : Nat → Option (Nat × Nat)} (hg : Glb mg mb nm (.ref a)) (P : Pat B₀ a code) (h1 : Ev prog w B₀ A env mu ρ e₁ (.str r)) (h2 : Ev prog w B₀ A env mu ρ e₂ (.str x))
    (hx : x.cps.size ≤ 100000) (hr : r.cps.size ≤ 10) (hlit : r.cps.contains 92 = false) (hf : ∀ p, p ≤ x.cps.size → Ans (Sre.forSearch code x.cps 0 p x.cps.size false) (fnd p)) (hs : ∀ p b e, fnd p = some (b, e) → p ≤ b ∧ b < e ∧ e ≤ x.cps.size)
    (hy : y.cps.toList = subR x.cps r.cps.toList fnd (x.cps.size + 1) 0)
    (hk : env.kindOf nm = some .globalImplicit := by rfl) (hd : (nm == ("__debug__" : Str)) = false := by decide +kernel) (hs2 : starEach [e₁, e₂] env = (false, eval e₁ env) :: starEach [e₂] env := by rfl) (hs3 : starEach [e₂] env = [(false, eval e₂ env)] := by rfl) (hline : (apos.endLine == pos.line) = true := by rfl) :
    Ev prog w B₀ A env mu ρ (.Call (.Attribute (.Name nm np) "sub" apos) [e₁, e₂] [] pos) (.str y) := fun s E F => by
  refine wpAny_Call_method_lateS rfl (by rw [hs2, hs3]; rfl) hline (loadGlb B F hg hk ?_ hd)
  obtain ⟨p, fl, b, its, n, e1, e2, e3⟩ := id P.obj
  refine ⟨"re.Pattern", "re.Pattern.sub", plainAttrs_re, slot_re_sub, type_re_sub, ⟨_, F.g _ _ e1, rfl⟩, fun a' q => by cases q; exact ⟨_, F.g _ _ e1, rfl⟩, ?_⟩
  refine callWith_builtin (Evs.plain (.cons h1 hs2 (.cons h2 hs3 .nil))) ((Evs.cons h1 hs2 (.cons h2 hs3 .nil)).args F fun vs s' rs K => ?_)
  replace rs := rps_cons rs; obtain ⟨_, _, rfl, r1, rs⟩ := rs
  replace rs := rps_cons rs; obtain ⟨_, _, rfl, r2, rs⟩ := rs
  obtain ⟨_, rfl⟩ := rp_str r1; obtain ⟨_, rfl⟩ := rp_str r2; obtain rfl := rps_nil rs
  refine sub_call (P.sub ((F.keeps K).g)) hx hr hlit hf hs fun h' tk t' y' k hy' => ?_
  have : y' = y := Str.ext' (by rw [← Array.toList_inj, hy', hy])
  subst this
  exact ⟨.str _ _, K.trans (Kp.mk k)⟩
end
noncomputable def fdQuote : FuncData := fdOf 96 (.str (Str.ofString "cpy313.smtplib") 371) (topStmt 14)
structure Qts (B₀ : Heap) (mg mb : Str → Option Value) : Prop where
  d : Def B₀ 97 fdQuote (bodyOf (topStmt 14)) ["data"]
  re1 : Glb mg mb "_twin_re_1" (.ref 85)
  re2 : Glb mg mb "_twin_re_2" (.ref 90)
  crlf : Glb mg mb "CRLF" (.str (Str.ofString "\r\n") 431)
  p1 : Pat B₀ 85 codeA
  p2 : Pat B₀ 90 codeB
/-- what quotedata gives -/
noncomputable def quoteP (l : List Nat) : List Nat := dt true (nl l)
theorem nlF_len : ∀ (l : List Nat) (b : Bool), (nlF b l).length ≤ 2 * l.length
  | [], _ => Nat.le_refl _
  | c :: r, b => by
    rw [nlF]
    have h1 := nlF_len r true
    have h2 := nlF_len r false
    split
    · simp only [List.length_cons]; omega
    · split
      · split
        · simp only [List.length_cons]; omega
        · simp only [List.length_cons]; omega
      · simp only [List.length_cons]; omega
section
variable {w : World} {B₀ : Heap} {mg mb : Str → Option Value} {A : Around} {mu : List Addr}
theorem quote_ok (B : Base B₀ mg mb) (X : Qts B₀ mg mb) {x : Str} (hx : x.cps.size ≤ 40000) (hh : A.handled = none) (hd : A.depth + 20 < recursionLimit) {s : Shared} {E : Value → Shared → Prop} {vs : List Value}
    (g : Sub B₀ s.heap) (low : Low mu s.heap) (r : Rps (Hid mu s.heap) vs [.str x]) :
    wpAny (model theProg w) A (call (.ref 97) vs) (fun v s' => Rp (Hid mu s'.heap) v (.str ⟨(quoteP x.cps.toList).toArray⟩) ∧ Kp s s') E s := by
  refine call_def B X.d (by omega) g low r (by rw [r.length]; rfl) ?_ fun s₁ K F E => ?_
  · replace r := rps_cons r; obtain ⟨_, _, rfl, r1, r2⟩ := r
    (first | obtain ⟨_, rfl⟩ := rp_int r2 | obtain ⟨_, rfl⟩ := rp_str r2 | obtain rfl := rp_raw r2 | obtain rfl := rps_nil r2 | cases r2); rfl
  · show wpAny _ _ (execs (_ :: _) _) _ _ _
    have hA : (A.deeper (callEnvC fdQuote s.heap.objs.size 97)).handled = none := hh
    have hn := nlF_len x.cps.toList false
    have eA : (⟨(quoteP x.cps.toList).toArray⟩ : Str).cps.toList = subR (nl x.cps.toList).toArray [46, 46] (fndA (nl x.cps.toList).toArray) ((nl x.cps.toList).toArray.size + 1) 0 := by
      rw [subA _ _ (by omega)]; rfl
    have eB : (⟨(nl x.cps.toList).toArray⟩ : Str).cps.toList = subR x.cps [13, 10] (fndB x.cps) (x.cps.size + 1) 0 := by
      rw [subB _ _ (by omega)]; rfl
    have hl : (⟨(nl x.cps.toList).toArray⟩ : Str).cps.size ≤ 100000 := by
      show (nl x.cps.toList).toArray.size ≤ _
      rw [List.size_toArray]; unfold nl
      have : x.cps.toList.length = x.cps.size := by simp
      omega
    refine wpAny_execs_cons (x_return (d := .str ⟨(quoteP x.cps.toList).toArray⟩) F ?_ fun v s₆ rv K₆ => ?_)
    · refine Ev.resub B X.re1 X.p1 Ev.cStr (Ev.resub B X.re2 X.p2 (Ev.glbStr B X.crlf) (Ev.name rfl) (by omega) (by decide +kernel) (by decide +kernel) (fun p hp => searchB) ?_ eB) hl (by decide +kernel) (by decide +kernel) (fun p hp => searchA (Nat.le_trans hl (by decide))) ?_ eA
      · intro p b e h
        unfold fndB at h
        split at h
        · cases h
        · cases q : findB x.cps (x.cps.size + 1 - p) p with
          | none => rw [q] at h; cases h
          | some z =>
            rw [q] at h; cases h
            have := findB_spec q
            have := endB_gt this.1
            omega
      · intro p b e h
        unfold fndA at h
        split at h
        · cases h
        · cases q : findA (nl x.cps.toList).toArray ((nl x.cps.toList).toArray.size + 1 - p) p with
          | none => rw [q] at h; cases h
          | some z =>
            rw [q] at h; cases h
            have := findA_some _ _ _ q
            exact ⟨this.1, Nat.lt_succ_self _, this.2.1⟩
    · exact ⟨rv.mono (hid_eqv fun b hb => List.mem_append_right _ hb), K.trans K₆⟩
end
end Mine
end
end
section
set_option Elab.async false
noncomputable section
open PySem PySem.W PySem.Calls PyProof.Rows
set_option maxRecDepth 100000
set_option linter.unusedVariables false
namespace Mine
noncomputable def keyD : D → Str | .tup [.str k, _] => k | _ => ("" : Str)
noncomputable def valD : D → D | .tup [_, v] => v | _ => .none
/-- no key twice, not too many -/
noncomputable def Fine (l : List D) : Prop := l.length ≤ sizeLine ∧ (l.map keyD).Nodup
theorem Fine.pre {a b : List D} (h : Fine (a ++ b)) : Fine a := ⟨by have := h.1; rw [List.length_append] at this; omega, by have := h.2; rw [List.map_append] at this; exact (List.nodup_append.mp this).1⟩
/-- the dict that a comprehension fills -/
noncomputable def AccD (prog : Program) (w : World) (D₀ : Addr) (MU : List Addr) (ys : List D) (h : Heap) : Prop := ∃ vs : List Value, h.DictOf (PySem.strKind prog w) D₀ ((ys.map keyD).zip vs) ∧ ys.length = vs.length ∧ Rps (Hid MU h) vs (ys.map valD)
theorem comp_endD {mu : List Addr} {d : D} {C D₀ : Addr} {s : Shared} {h' h'' : Heap} {tk : Nat} (hs : Heap.SameBut C h' h'') (nC : s.heap.get? C = none) (r : Rp (Hid (C :: mu) h') (.ref D₀) d) (k : Sub s.heap h') :
    Rp (Hid mu h'') (.ref D₀) d ∧ Kp s { s with heap := h'', toks := tk } := by
  refine ⟨r.mono fun b o e => ?_, Kp.mk fun b o e => sameBut_get hs (fun q => by rw [q, nC] at e; cases e) (k b o e)⟩
  obtain ⟨n, e1⟩ := hid_get e
  exact hid_of (fun hm => n (.tail _ hm)) (sameBut_get hs (fun q => n (q ▸ .head _)) e1)
section
variable {prog : Program} {w : World} {B₀ : Heap} {A : Around} {env : Env} {mu : List Addr} {ρ : List (Str × D)} {scope : Scope} {cl : List (Str × Addr)}
theorem newDict_any {s : Shared} {E : Value → Shared → Prop} {Q : Value → Shared → Prop} (h : Q (.ref s.heap.objs.size) { s with heap := s.heap.push { cls := .type "dict", data := .dict #[] } }) : wpAny (model prog w) A newDict Q E s := by
  simp only [newDict, newObj]
  exact wpAny_bind (wpAny_alloc (wpAny_pure h))
theorem dict_at {a : Addr} {kvs : List (Str × Value)} {h h' : Heap} (d : h.DictOf (PySem.strKind prog w) a kvs) (k : ∀ o, h.get? a = some o → h'.get? a = some o) : h'.DictOf (PySem.strKind prog w) a kvs := let ⟨o, es, ep, ho, r⟩ := d; ⟨o, es, ep, k _ ho, r⟩
theorem AccD.subB {D₀ : Addr} {MU ws : List Addr} {ys : List D} {h h' : Heap} (x : AccD prog w D₀ MU ys h) (k : SubB ws h h') (hD : D₀ ∉ ws) (hs : ∀ b ∈ ws, b ∈ MU) : AccD prog w D₀ MU ys h' := by
  obtain ⟨vs, p, l, r⟩ := x
  exact ⟨vs, dict_at p fun o e => k _ _ hD e, l, r.mono (k.hid hs)⟩
theorem AccD.drop {D₀ : Addr} {ws : List Addr} {ys : List D} {h h' : Heap} (x : AccD prog w D₀ (ws ++ mu) ys h) (k : SubB ws h h') (hD : D₀ ∉ ws) : AccD prog w D₀ mu ys h' :=
  let ⟨vs, p, l, r⟩ := x; ⟨vs, dict_at p fun o e => k _ _ hD e, l, r.mono (drop_hid k)⟩
theorem zip_snoc {α β : Type} : ∀ {a : List α} {b : List β} (x : α) (y : β), a.length = b.length → (a ++ [x]).zip (b ++ [y]) = a.zip b ++ [(x, y)]
  | [], [], _, _, _ => rfl
  | [], _ :: _, _, _, h => by cases h
  | _ :: _, [], _, _, h => by cases h
  | _ :: _, _ :: _, x, y, h => by simp only [List.cons_append, List.zip_cons_cons]; rw [zip_snoc x y (by simpa using h)]
theorem emit_dict {kx vx : Expr} {k : Str} {d : D} {D₀ : Addr} {ys : List D} {s : Shared} {E : Value → Shared → Prop} (F : Frm B₀ env mu ρ s.heap) (hk : Ev prog w B₀ A env mu ρ kx (.str k)) (hv : Ev prog w B₀ A env mu ρ vx d) (hD : D₀ ∈ mu) (x : AccD prog w D₀ mu ys s.heap) (hn : Fine (ys ++ [.tup [.str k, d]]))
    {Q : Unit → Shared → Prop} (h : ∀ h' tk, AccD prog w D₀ mu (ys ++ [.tup [.str k, d]]) h' → SubB [D₀] s.heap h' → (∃ o, h'.get? D₀ = some o) → Q () { s with heap := h', toks := tk }) : wpAny (model prog w) A (emitD kx vx (.ref D₀) env) Q E s := by
  unfold emitD
  refine wpAny_bind (wpAny_mono (hk s E F) (fun vk s₁ ⟨rk, K₁⟩ => ?_) fun _ _ x => x)
  refine wpAny_bind (wpAny_holding (wpAny_mono (hv s₁ E (F.keeps K₁)) (fun v s₂ ⟨rv, K₂⟩ => ?_) fun _ _ x => x))
  obtain ⟨t, rfl⟩ := rp_str rk
  have K := K₁.trans K₂
  obtain ⟨vs, p, l, r⟩ := x.subB (ws := []) (Sub.b K.sub) (by simp) (by simp)
  have lk : (ys.map keyD).length = vs.length := by rw [List.length_map]; exact l
  refine wpAny_bind (wpAny_standAt (wpAny_holding (wpAny_dictSet_pairs (strKind_is prog w k t) p (fun h' p' hs => ?_) ?_)))
  · obtain ⟨h₁, tk₁, rfl, k₁⟩ := id K
    have sb : SubB [D₀] h₁ h' := fun b o n e => sameBut_get hs (by simpa using n) e
    have hid : Sub (Hid mu h₁) (Hid mu h') := sb.hid (by simp [hD])
    have nod := hn.2
    rw [List.map_append] at nod
    have nk : k ∉ ys.map keyD := fun hm => (List.nodup_append.mp nod).2.2 k hm k (.head _) rfl
    have st : stored ((ys.map keyD).zip vs) k v = ((ys ++ [D.tup [.str k, d]]).map keyD).zip (vs ++ [v]) := by
      rw [List.map_append]
      show _ = (ys.map keyD ++ [k]).zip (vs ++ [v])
      rw [zip_snoc k v lk]
      unfold stored
      rw [if_neg]
      intro hany
      obtain ⟨q, hq, e⟩ := List.any_eq_true.mp hany
      have := List.of_mem_zip (a := q.1) (b := q.2) hq
      exact nk (of_decide_eq_true e ▸ this.1)
    rw [st] at p'
    refine h h' _ ⟨vs ++ [v], p', by simp [l], ?_⟩ (fun b o n e => sb b o n (k₁ b o e)) (let ⟨o, _, _, e, _⟩ := p'; ⟨o, e⟩)
    rw [List.map_append]
    exact (r.append (.cons rv .nil)).mono hid
  · have := hn.1
    rw [List.length_append] at this
    rw [List.length_zip, lk, Nat.min_self, ← l]; omega
/-- one item's worth of a clause -/
noncomputable def StepD (prog : Program) (w : World) (B₀ : Heap) (A : Around) (env : Env) (MU own : List Addr) (ρ : List (Str × D)) (D₀ : Addr) (run : Value → (Shared → Prop) → (Value → Shared → Prop) → Shared → Prop) (d : D) (out : List D) : Prop :=
  ∀ (s : Shared) (E : Value → Shared → Prop) (v : Value) (ys : List D) (Q : Shared → Prop), Frm B₀ env MU ρ s.heap → AccD prog w D₀ MU ys s.heap → Rp (Hid MU s.heap) v d → Fine (ys ++ out) →
    (∀ h' tk, Frm B₀ env MU ρ h' → AccD prog w D₀ MU (ys ++ out) h' → SubB own s.heap h' → Q { s with heap := h', toks := tk }) → run v Q E s
/-- what holds between two turns -/
noncomputable def LInvD (prog : Program) (w : World) (B₀ : Heap) (env : Env) (MU own : List Addr) (ρ : List (Str × D)) (D₀ : Addr) (wr : List Addr) (ds : List D) (St : Nat → Heap → Prop) (f : D → List D) (ys : List D) (s₀ : Shared) (k : Nat) (s : Shared) : Prop :=
  ∃ i h tk, k = ds.length + 1 - i ∧ i ≤ ds.length ∧ s = { s₀ with heap := h, toks := tk } ∧ St i h ∧ Frm B₀ env (wr ++ MU) ρ h ∧ AccD prog w D₀ (wr ++ MU) (ys ++ (ds.take i).flatMap f) h ∧ SubB (wr ++ own) s₀.heap h
theorem loop_turnD {MU own : List Addr} {D₀ I : Addr} {fp wr : List Addr} {ds ys : List D} {P : Nat → Value → Prop} {St : Nat → Heap → Prop} {f : D → List D} {s₀ : Shared} {R : Result → Shared → Prop} {run : Value → (Shared → Prop) → (Value → Shared → Prop) → Shared → Prop} {tgt : Expr}
    (W : Walks prog w A I fp wr ds.length P St) (hfp : ∀ b ∈ fp, b ∉ MU) (hown : ∀ b ∈ own, b ∈ MU) (hwb : ∀ b ∈ wr, B₀.get? b = none) (hD : D₀ ∈ MU) (hloc : env.locals ∈ MU) (hcel : ∀ n c, env.cells.lookup n = some c → c ∈ MU)
    (hrp : ∀ i v, i < ds.length → P i v → ∃ d, ds[i]? = some d ∧ Rp (Hid (wr ++ MU) s₀.heap) v d) (hg : ∀ i (s : Shared) (Q : Unit → Shared → Prop) (E : Value → Shared → Prop) (v : Value), St i s.heap → Q () s → wpAny (model prog w) A (letOwnedTupleGo tgt (.ref I) v) Q E s)
    (live : ∀ i h, St i h → ∀ b ∈ fp, ∃ o, h.get? b = some o) (hsz : Fine (ys ++ ds.flatMap f))
    (step : ∀ d ∈ ds, StepD prog w B₀ A env (wr ++ MU) own ρ D₀ run d (f d))
    (hR : ∀ h' tk, Frm B₀ env MU ρ h' → AccD prog w D₀ MU (ys ++ ds.flatMap f) h' → SubB (wr ++ own) s₀.heap h' → R (.ok .next) { s₀ with heap := h', toks := tk })
    (n : Nat) (s : Shared) (E : Value → Shared → Prop) (hI : LInvD prog w B₀ env MU own ρ D₀ wr ds St f ys s₀ n s) :
    wpAny (model prog w) A (pyNext (.ref I)) (fun r s₁ => match r with
      | none => R (.ok .next) s₁
      | some v => wpAny (model prog w) A (letOwnedTupleGo tgt (.ref I) v) (fun _ s₁' => run v (fun s₅ => ∃ m, m < n ∧ LInvD prog w B₀ env MU own ρ D₀ wr ds St f ys s₀ m s₅) E s₁') E s₁) E s := by
  obtain ⟨i, h, tk, rfl, hi, rfl, st, F, ac, sb⟩ := hI
  have hDw : D₀ ∉ wr := fun hm => hfp _ (W.sub _ hm) hD
  have hww : ∀ b ∈ wr, b ∈ wr ++ MU ∧ B₀.get? b = none ∧ b ≠ env.locals ∧ ∀ n c, env.cells.lookup n = some c → c ≠ b := fun b hb =>
    ⟨List.mem_append_left _ hb, hwb b hb, fun q => hfp b (W.sub b hb) (q ▸ hloc), fun n c e q => hfp b (W.sub b hb) (q ▸ hcel n c e)⟩
  rcases Nat.lt_or_ge i ds.length with hlt | hge
  · refine W.item i _ _ E hlt st fun v h₁ tk₁ Pv st₁ k₁ => ?_
    obtain ⟨d, ed, rd⟩ := hrp i v hlt Pv
    have kb : SubB wr h h₁ := fun b o n e => k₁ b o n e
    have F₁ : Frm B₀ env (wr ++ MU) ρ h₁ := F.ws kb hww fun b hb => live _ _ st₁ b (W.sub b hb)
    have ac₁ := ac.subB kb hDw fun b hb => List.mem_append_left _ hb
    have sb₁ : SubB (wr ++ own) s₀.heap h₁ := sb.trans (kb.mono fun b hb => List.mem_append_left _ hb)
    have rv : Rp (Hid (wr ++ MU) h₁) v d := rd.mono (sb₁.hid fun b hb => by
      rcases List.mem_append.mp hb with q | q
      · exact List.mem_append_left _ q
      · exact List.mem_append_right _ (hown b q))
    dsimp only
    refine hg _ _ _ E v st₁ ?_
    have hl : Fine ((ys ++ (ds.take i).flatMap f) ++ f d) := by
      rw [List.append_assoc, ← take_flat ed]
      have e : ds.flatMap f = (ds.take (i + 1)).flatMap f ++ (ds.drop (i + 1)).flatMap f := by rw [← List.flatMap_append, List.take_append_drop]
      rw [e, ← List.append_assoc] at hsz
      exact hsz.pre
    refine step d (List.mem_of_getElem? ed) _ E v _ _ F₁ ac₁ rv hl fun h₂ tk₂ F₂ ac₂ sb₂ => ?_
    refine ⟨ds.length + 1 - (i + 1), by omega, i + 1, h₂, tk₂, rfl, hlt, rfl, ?_, F₂, ?_, sb₁.trans (sb₂.mono fun b hb => List.mem_append_right _ hb)⟩
    · refine W.frame _ _ _ st₁ fun b hb o e => sb₂ b o (fun hm => hfp b hb (hown b hm)) e
    · rw [take_flat ed, ← List.append_assoc]; exact ac₂
  · have hi' : i = ds.length := Nat.le_antisymm hi hge
    subst hi'
    refine W.done _ _ E st fun h₁ tk₁ k₁ => ?_
    have kb : SubB wr h h₁ := fun b o n e => k₁ b o n e
    rw [List.take_length] at ac
    exact hR h₁ tk₁ (F.drop kb hloc hcel fun b hb => ⟨hfp b (W.sub b hb), hwb b hb⟩) (ac.drop kb hDw) (sb.trans (kb.mono fun b hb => List.mem_append_left _ hb))
theorem stepD1 {MU own : List Addr} {D₀ : Addr} {tgt kx vx : Expr} {d g : D} {k : Str} {bs : List (Str × D)} {md : List Addr} (hh : A.handled = none) (hT : AsT prog w B₀ env tgt d bs md) (hmd : ∀ x ∈ md, x ∈ own) (hmD : D₀ ∉ md)
    (hk : Ev prog w B₀ A env MU (bs ++ ρ) kx (.str k)) (hv : Ev prog w B₀ A env MU (bs ++ ρ) vx g) (hdis : ∀ y e, ρ.lookup y = some e → (bs ++ ρ).lookup y = some e) (hD : Aside B₀ env MU D₀) (hDo : D₀ ∈ own) :
    StepD prog w B₀ A env MU own ρ D₀ (run1 prog w A tgt [] (emitD kx vx (.ref D₀) env) env) d [.tup [.str k, g]] := by
  intro s E v ys Q F ac rv hl hQ
  unfold run1
  refine hT A MU ρ s E v _ F rv hh fun h' tk F' sb hmu => ?_
  refine wpAny_tests_nil ?_
  rw [if_pos rfl]
  have ac' : AccD prog w D₀ MU ys h' := ac.subB sb hmD hmu
  refine emit_dict (s := { s with heap := h', toks := tk }) F' hk hv hD.mem ac' hl fun h₄ tk₄ ac₄ sb₄ live => ?_
  have F₄ : Frm B₀ env MU (bs ++ ρ) h₄ := F'.ws sb₄ (fun b hb => by rw [List.mem_singleton] at hb; subst hb; exact ⟨hD.mem, hD.base, hD.loc, hD.cel⟩) fun b hb => by rw [List.mem_singleton] at hb; subst hb; exact live
  refine hQ h₄ tk₄ (F₄.weak hdis) ac₄ fun b o n e => sb₄ b o (fun q => ?_) (sb b o (fun q => n (hmd b q)) e)
  rw [List.mem_singleton] at q; subst q; exact n hDo
theorem one_flat {f : D → D} : ∀ ds : List D, (ds.flatMap fun d => [f d]) = ds.map f
  | [] => rfl
  | d :: ds => by rw [List.flatMap_cons, one_flat ds]; rfl
/-- the whole of a dict comprehension with one clause -/
theorem compD1 {tgt iter kx vx : Expr} {pos : Pos} {ds : List D} {ρf : List (Str × D)} {kf : D → Str} {f : D → D} {bs : D → List (Str × D)} {s : Shared} {E : Value → Shared → Prop} {RR : Value → Addr → Result → Shared → Prop}
    (hh : A.handled = none) (F : Frm B₀ env mu ρ s.heap) (hit : It prog w B₀ A env mu ρ iter ds) (hsub : ∀ y c, cl.lookup y = some c → env.cells.lookup y = some c) (hkind : scope.kind = .function) (hf : FreeOk env ρ scope cl ρf)
    (hT : ∀ C d, d ∈ ds → ∃ md, AsT prog w B₀ (cenvOf scope cl env C) tgt d (bs d) md ∧ ∀ b ∈ md, b = C ∨ b ∈ (ownCells C scope).map (·.2))
    (hdis : ∀ d y e, ρf.lookup y = some e → (bs d ++ ρf).lookup y = some e)
    (hk : ∀ C MU d, d ∈ ds → Ev prog w B₀ A (cenvOf scope cl env C) MU (bs d ++ ρf) kx (.str (kf d))) (hv : ∀ C MU d, d ∈ ds → Ev prog w B₀ A (cenvOf scope cl env C) MU (bs d ++ ρf) vx (f d)) (hnd : (ds.map kf).Nodup)
    (hRR : ∀ D₀ C h' tk, s.heap.get? D₀ = none → s.heap.get? C = none → D₀ ≠ C → (∃ m, h'.Ns C m) → Rp (Hid (C :: mu) h') (.ref D₀) (.dct prog w (ds.map kf) (ds.map f)) → Sub s.heap h' → RR (.ref D₀) C (.ok .next) { s with heap := h', toks := tk }) :
    wpAny (model prog w) A (eval iter env) (fun x s₁ => wpAny (model prog w) A (pyIter x) (fun it s₂ => wpAny (model prog w) A newDict (fun acc s₃ =>
      wpAny (model prog w) A (newFunctionEnv scope env.globals cl [] env.qual none .none (some env)) (fun cenv s₄ =>
        codeAny (model prog w) A (.compStart (.DictComp kx vx [⟨tgt, iter, [], 0⟩] scope pos) 0 it acc { cenv with scope := relabel scope env }) (RR acc cenv.locals) s₄) E s₃) E s₂) E s₁) E s := by
  refine wpAny_mono (hit s E F) (fun x s₁ h₁ => wpAny_mono h₁ (fun it s₂ ⟨I, fp, wr, P, St, J⟩ => ?_) fun _ _ x => x) fun _ _ x => x
  obtain ⟨rfl, W, st, onFp, onWr, rp, kp, own, sz, live⟩ := J
  refine newDict_any (newCenv fun h₄ n₄ ok₄ sub₄ env' he hl => ?_)
  obtain ⟨h₂, tk₂, rfl, k₂⟩ := id kp
  dsimp only at *
  rw [he, hl]
  generalize hD : h₂.objs.size = D₀ at *
  generalize hC : (h₂.push { cls := Value.type "dict", dict := none, data := Data.dict #[] }).objs.size = C at *
  have hCD : C = D₀ + 1 := by rw [← hC, Heap.size_push, hD]
  have hDC : D₀ ≠ C := by omega
  have lt2 : ∀ b o, h₂.get? b = some o → b < D₀ := fun b o e => hD ▸ Heap.lt_size e
  have sub24 : Sub h₂ h₄ := fun b o e => sub₄ b o (Heap.get?_push_of_some _ e)
  have hD4 : h₄.DictOf (PySem.strKind prog w) D₀ [] := by
    have q := Heap.DictOf.new (knd := PySem.strKind prog w) h₂
    rw [hD] at q
    exact dict_at q fun o e => sub₄ _ _ e
  have nD2 : h₂.get? D₀ = none := by cases q : h₂.get? D₀ with | none => rfl | some o => exact absurd (lt2 _ _ q) (Nat.lt_irrefl _)
  have nC2 : h₂.get? C = none := by cases q : h₂.get? C with | none => rfl | some o => exact absurd (Nat.lt_trans (lt2 _ _ q) (by omega)) (Nat.lt_irrefl _)
  have nD : s.heap.get? D₀ = none := by cases q : s.heap.get? D₀ with | none => rfl | some o => rw [k₂ _ _ q] at nD2; cases nD2
  have nC : s.heap.get? C = none := by cases q : s.heap.get? C with | none => rfl | some o => rw [k₂ _ _ q] at nC2; cases nC2
  have live2 : ∀ b ∈ wr, ∃ o, h₂.get? b = some o := fun b hb => live _ _ st b (W.sub b hb)
  have F₂ : Frm B₀ env (wr ++ mu) ρ h₂ := F.hide kp onWr live2
  have Fc : Frm B₀ (cenvOf scope cl env C) (muC C D₀ scope (wr ++ mu)) ρf h₄ := F₂.comp sub24 (fun b o e => Nat.lt_trans (lt2 b o e) (by omega)) nD2 (let ⟨o, _, _, e, _⟩ := hD4; ⟨o, e⟩) n₄ ok₄ hkind hsub hf
  have memEq : ∀ b, b ∈ muC C D₀ scope (wr ++ mu) ↔ b ∈ wr ++ muC C D₀ scope mu := fun b => by simp only [List.mem_cons, List.mem_append]; constructor <;> (intro h; rcases h with h | h | h | h | h <;> simp [h])
  have Fl := Fc.eqv memEq
  have ownLt : ∀ y c, (y, c) ∈ ownCells C scope → h₂.get? c = none := fun y c hm => by
    cases q : h₂.get? c with
    | none => rfl
    | some o => exact absurd (Nat.lt_of_lt_of_le (Nat.lt_trans (lt2 _ _ q) (by omega : D₀ < C)) (Nat.le_of_succ_le (ok₄.empty y c hm).2)) (Nat.lt_irrefl _)
  have fpMU : ∀ b ∈ fp, b ∉ muC C D₀ scope mu := fun b hb hm => by
    obtain ⟨n, o, e⟩ := onFp b hb
    rcases List.mem_cons.mp hm with q | hm
    · rw [q, nC2] at e; cases e
    · rcases List.mem_cons.mp hm with q | hm
      · rw [q, nD2] at e; cases e
      · rcases List.mem_append.mp hm with hm | hm
        · obtain ⟨p, hp, q⟩ := List.mem_map.mp hm
          rw [← q, ownLt p.1 p.2 hp] at e; cases e
        · exact n hm
  let own' : List Addr := C :: D₀ :: (ownCells C scope).map (·.2)
  have ownMU : ∀ b ∈ own', b ∈ muC C D₀ scope mu := fun b hb => by
    rcases List.mem_cons.mp hb with q | hb
    · exact q ▸ .head _
    · rcases List.mem_cons.mp hb with q | hb
      · exact q ▸ .tail _ (.head _)
      · exact .tail _ (.tail _ (List.mem_append_left _ hb))
  have ownFresh : ∀ b ∈ own', s.heap.get? b = none := fun b hb => by
    rcases List.mem_cons.mp hb with q | hb
    · exact q ▸ nC
    · rcases List.mem_cons.mp hb with q | hb
      · exact q ▸ nD
      · obtain ⟨p, hp, q⟩ := List.mem_map.mp hb
        cases q' : s.heap.get? b with
        | none => rfl
        | some o => have := k₂ _ _ q'; rw [← q, ownLt p.1 p.2 hp] at this; cases this
  have wrB : ∀ b ∈ wr, B₀.get? b = none := fun b hb => by cases q : B₀.get? b with | none => rfl | some o => have := onWr b hb; rw [F.g _ _ q] at this; cases this
  have wf := Fl.wf
  have cellMU : ∀ n c, (cenvOf scope cl env C).cells.lookup n = some c → c ∈ muC C D₀ scope mu := fun n c e => by
    have q : (ownCells C scope ++ cl).lookup n = some c := e
    rw [List.lookup_append] at q
    cases z : (ownCells C scope).lookup n with
    | some c' => rw [z] at q; cases q; exact .tail _ (.tail _ (List.mem_append_left _ (List.mem_map.mpr ⟨(n, c), lookup_mem z, rfl⟩)))
    | none => rw [z] at q; exact .tail _ (.tail _ (List.mem_append_right _ (F.wf.cel n c (hsub n c q)).1))
  have asideD : ∀ MU', (∀ b, b ∈ muC C D₀ scope mu → b ∈ MU') → Aside B₀ (cenvOf scope cl env C) MU' D₀ := fun MU' hM => by
    have nDB : B₀.get? D₀ = none := by cases q : B₀.get? D₀ with | none => rfl | some o => rw [F.g _ _ q] at nD; cases nD
    refine ⟨hM _ (.tail _ (.head _)), nDB, hDC, fun n c e q => ?_⟩
    have q2 : (ownCells C scope ++ cl).lookup n = some c := e
    rw [List.lookup_append] at q2
    cases z : (ownCells C scope).lookup n with
    | some c' => rw [z] at q2; cases q2; have := (ok₄.empty n c (lookup_mem z)).2; rw [q] at this; omega
    | none => rw [z] at q2; obtain ⟨o, eo⟩ := F.low c (F.wf.cel n c (hsub n c q2)).1; rw [q, nD] at eo; cases eo
  have loop : codeAny (model prog w) A (.compLoop (.DictComp kx vx [⟨tgt, iter, [], 0⟩] scope pos) 0 (.ref I) (.ref D₀) (cenvOf scope cl env C)) (RR (.ref D₀) C) { s with heap := h₄, toks := tk₂ } := by
    refine loop_gen (turn_D1 ..) rfl (under_comp rfl) (LInvD prog w B₀ (cenvOf scope cl env C) (muC C D₀ scope mu) own' ρf D₀ wr ds St (fun d => [.tup [.str (kf d), f d]]) [] { s with heap := h₄, toks := tk₂ }) (fun n s' E' hI => ?_) (ds.length + 1)
      ⟨0, h₄, tk₂, rfl, Nat.zero_le _, rfl, W.frame _ _ _ st fun b _ o e => sub24 b o e, Fl, ⟨[], hD4, rfl, .nil⟩, SubB.refl _ _⟩
    refine loop_turnD (run := run1 prog w A tgt [] (emitD kx vx (.ref D₀) (cenvOf scope cl env C)) (cenvOf scope cl env C)) (tgt := tgt) (R := RR (.ref D₀) C) W fpMU ownMU wrB (.tail _ (.head _)) (.head _) cellMU (fun i v hi Pv => ?_) (fun i s Q E v st h => own i s Q E tgt v st h) live ?_ (fun d hd => ?_) (fun h' tk' F' ac sb => ?_) n s' E' hI
    · obtain ⟨d, ed, rd⟩ := rp i v hi Pv
      refine ⟨d, ed, rd.mono fun b o e => ?_⟩
      obtain ⟨n1, e1⟩ := hid_get e
      refine hid_of (fun hm => ?_) (sub24 _ _ e1)
      rcases List.mem_append.mp hm with hm | hm
      · exact n1 (List.mem_append_left _ hm)
      · rcases List.mem_cons.mp hm with q | hm
        · rw [q, nC2] at e1; cases e1
        · rcases List.mem_cons.mp hm with q | hm
          · rw [q, nD2] at e1; cases e1
          · rcases List.mem_append.mp hm with hm | hm
            · obtain ⟨p, hp, q⟩ := List.mem_map.mp hm
              rw [← q, ownLt p.1 p.2 hp] at e1; cases e1
            · exact n1 (List.mem_append_right _ hm)
    · rw [List.nil_append]
      refine ⟨by rw [one_flat, List.length_map]; exact sz, ?_⟩
      rw [one_flat, List.map_map]; exact hnd
    · obtain ⟨md, hA, hm⟩ := hT C d hd
      refine stepD1 hh hA (fun b hb => ?_) (fun hb => ?_) (hk C _ d hd) (hv C _ d hd) (hdis d) (asideD _ fun b hb => List.mem_append_right _ hb) (.tail _ (.head _))
      · rcases hm b hb with q | q
        · exact q ▸ .head _
        · exact .tail _ (.tail _ q)
      · rcases hm D₀ hb with q | q
        · exact hDC q
        · obtain ⟨p, hp, q⟩ := List.mem_map.mp q
          have := (ok₄.empty p.1 p.2 hp).2; rw [q] at this; omega
    · rw [List.nil_append, one_flat] at ac
      obtain ⟨vs, pl, ln, rs⟩ := ac
      have kept : Sub s.heap h' := fun b o e => by
        refine sb b o (fun hm => ?_) (sub24 _ _ (k₂ _ _ e))
        rcases List.mem_append.mp hm with hm | hm
        · rw [onWr b hm] at e; cases e
        · rw [ownFresh b hm] at e; cases e
      have hcell : ∀ b, b ∈ C :: mu → b ∈ muC C D₀ scope mu := fun b hb => by
        rcases List.mem_cons.mp hb with q | hb
        · exact q ▸ .head _
        · exact .tail _ (.tail _ (List.mem_append_right _ hb))
      have e1 : (ds.map fun d => D.tup [.str (kf d), f d]).map keyD = ds.map kf := by rw [List.map_map]; rfl
      have e2 : (ds.map fun d => D.tup [.str (kf d), f d]).map valD = ds.map f := by rw [List.map_map]; rfl
      rw [e1] at pl
      rw [e2] at rs
      refine hRR D₀ C h' tk' nD nC hDC F'.ns (.dct (dict_at pl fun o e => hid_of (fun hm => ?_) e) (by rw [← ln]; simp) (rs.mono (hid_eqv hcell))) kept
      rcases List.mem_cons.mp hm with q | hm
      · exact hDC q
      · obtain ⟨o, eo⟩ := F.low _ hm; rw [nD] at eo; cases eo
  exact codeAny_compStart_dict loop (W.self 0 _ _ _ (W.frame _ _ _ st fun b _ o e => sub24 b o e) loop)
theorem Ev.dcomp {tgt iter kx vx : Expr} {pos : Pos} {ds : List D} {ρf : List (Str × D)} {kf : D → Str} {f : D → D} {bs : D → List (Str × D)}
    (hh : A.handled = none) (ok : CompOk env scope cl iter) (hit : It prog w B₀ A env mu ρ iter ds) (hf : FreeOk env ρ scope cl ρf)
    (hT : ∀ C d, d ∈ ds → ∃ md, AsT prog w B₀ (cenvOf scope cl env C) tgt d (bs d) md ∧ ∀ b ∈ md, b = C ∨ b ∈ (ownCells C scope).map (·.2))
    (hdis : ∀ d y e, ρf.lookup y = some e → (bs d ++ ρf).lookup y = some e)
    (hk : ∀ C MU d, d ∈ ds → Ev prog w B₀ A (cenvOf scope cl env C) MU (bs d ++ ρf) kx (.str (kf d))) (hv : ∀ C MU d, d ∈ ds → Ev prog w B₀ A (cenvOf scope cl env C) MU (bs d ++ ρf) vx (f d)) (hnd : (ds.map kf).Nodup) :
    Ev prog w B₀ A env mu ρ (.DictComp kx vx [⟨tgt, iter, [], 0⟩] scope pos) (.dct prog w (ds.map kf) (ds.map f)) := fun s E F => by
  rw [arm_eval_DictComp]
  refine wpAny_comprehension_free (use := none) rfl ok.fs ok.clos ok.kind ok.names ?_
  exact compD1 hh F hit ok.sub ok.kind hf hT hdis hk hv hnd fun D₀ C h' tk nD nC hDC ⟨m, n⟩ r k => ⟨m, n, fun h'' hs => comp_endD hs nC r k⟩
end
end Mine
end
end
section
set_option Elab.async false
noncomputable section
open PySem PySem.W PySem.Calls PyProof.Rows
set_option maxRecDepth 100000
set_option linter.unusedVariables false
set_option maxHeartbeats 1000000
namespace Mine
noncomputable def fdSent : FuncData := fdOf 256 (.str (Str.ofString "law_qu0060_01") 705) (topStmt 23)
noncomputable def crlfS : Str := ("\r\n" : Str)
noncomputable def rowOf (words : List Str) (k : Nat) : Str := Txt.mul ("." : Str) ((k : Int) + 1) ++ Txt.join ("" : Str) (words.map fun x => Txt.item x k)
noncomputable def mail0 (words : List Str) (size : Nat) (en : Str) : Str := Txt.join en ((List.range size).map (rowOf words))
noncomputable def quoteS (x : Str) : Str := ⟨(quoteP x.cps.toList).toArray⟩
noncomputable def mailAt (words : List Str) (size : Nat) (en : Str) : Nat → Str
  | 0 => mail0 words size en
  | i + 1 => quoteS (mailAt words size en i)
noncomputable def layRow (size : Nat) (laid : List Str) (row : Str) : List Str := laid.set ((Txt.count row ("." : Str) - 1).fmod size).toNat (Txt.slice row (some (Txt.count row ("." : Str))) none)
noncomputable def laidAt (size : Nat) (rows : List Str) (i : Nat) : List Str := (rows.take i).foldl (layRow size) (List.replicate size ("" : Str))
noncomputable def sentOf (laid : List Str) (j : Nat) : Str := Txt.join ("" : Str) (laid.map fun x => Txt.slice x (some (j : Int)) (some ((j : Int) + 1)))
/-- all that is small -/
structure SentOk (words : List Str) (size sends : Nat) (en : Str) : Prop where
  first : ∃ x, words[0]? = some x ∧ x.length = size
  pos : 0 < size
  six : size ≤ 6
  many : words.length ≤ 1000
  len : ∀ x ∈ words, x.length = size
  nod : words.Nodup
  enl : en.length ≤ 2
  mail : ∀ i, i ≤ sends → (mailAt words size en i).cps.size ≤ 40000
  snd : sends ≤ 4
  rows : ∀ i, i ≤ sends → (Txt.split (mailAt words size en i) crlfS).length ≤ 100000 ∧ (Builtin.Str.partsBetween (mailAt words size en i) (Builtin.Str.occurrences (mailAt words size en i) crlfS 0 (mailAt words size en i).length ((mailAt words size en i).length + 1)) crlfS.length).length ≤ 100000
  rowl : ∀ x ∈ Txt.split (mailAt words size en sends) crlfS, x.length ≤ 40000
theorem filt_true {α : Type} (l : List α) : l.filter (fun _ => true) = l := by simp
theorem sum_le {α : Type} {f : α → Nat} {c : Nat} : ∀ l : List α, (∀ x ∈ l, f x ≤ c) → (l.map f).sum ≤ c * l.length
  | [], _ => Nat.zero_le _
  | x :: l, h => by
    rw [List.map_cons, List.sum_cons, List.length_cons, Nat.mul_add]
    have := sum_le l fun y hy => h y (.tail _ hy)
    have := h x (.head _)
    omega
theorem join_len (sep : Str) (ys : List Str) {c : Nat} (h : ∀ x ∈ ys, x.length ≤ c) : (Txt.join sep ys).length ≤ c * ys.length + ys.length * sep.length := by
  show (Builtin.Str.glued sep ys).length ≤ _
  rw [StrLaws.glued_eq_join]
  have := StrLaws.join_length_le sep ys
  have := sum_le (f := fun y : Str => y.length) ys h
  omega
theorem dots_ok : ∀ k : Nat, k < 6 → MulOk ("." : Str) ((k : Int) + 1) ∧ (Txt.mul ("." : Str) ((k : Int) + 1)).length ≤ 6 := by
  unfold MulOk
  decide +kernel
theorem row_len {words : List Str} {k : Nat} (hk : k < 6) (hw : words.length ≤ 1000) : (rowOf words k).length ≤ 1006 := by
  unfold rowOf
  rw [strLen_append]
  have h1 := (dots_ok k hk).2
  have h2 := join_len ("" : Str) (words.map fun x => Txt.item x k) (c := 1) (fun x hx => by obtain ⟨y, _, rfl⟩ := List.mem_map.mp hx; exact Nat.le_refl _)
  rw [List.length_map] at h2
  have h3 : ("" : Str).length = 0 := rfl
  rw [h3] at h2
  omega
section
variable {w : World} {B₀ : Heap} {mg mb : Str → Option Value} {A : Around} {mu : List Addr}
theorem laid_succ {size : Nat} {rows : List Str} {i : Nat} {x : Str} (e : rows[i]? = some x) : laidAt size rows (i + 1) = layRow size (laidAt size rows i) x := by
  unfold laidAt
  rw [List.take_add_one, e]; simp
theorem laid_len {size : Nat} {rows : List Str} : ∀ i, (laidAt size rows i).length = size
  | 0 => by simp [laidAt]
  | i + 1 => by
    cases e : rows[i]? with
    | none =>
      have : laidAt size rows (i + 1) = laidAt size rows i := by unfold laidAt; rw [List.take_add_one, e]; simp
      rw [this]; exact laid_len i
    | some x => rw [laid_succ e]; unfold layRow; rw [List.length_set]; exact laid_len i
theorem laid_small {size : Nat} {rows : List Str} {n : Nat} (h : ∀ x ∈ rows, x.length ≤ n) : ∀ i, ∀ y ∈ laidAt size rows i, y.length ≤ n
  | 0, y, hy => by
    have := List.eq_of_mem_replicate hy
    subst this
    exact Nat.zero_le _
  | i + 1, y, hy => by
    cases e : rows[i]? with
    | none =>
      have : laidAt size rows (i + 1) = laidAt size rows i := by unfold laidAt; rw [List.take_add_one, e]; simp
      rw [this] at hy; exact laid_small h i y hy
    | some x =>
      rw [laid_succ e] at hy
      rcases List.mem_or_eq_of_mem_set hy with q | q
      · exact laid_small h i y q
      · subst q; exact Nat.le_trans (Txt.slice_le _ _ _) (h x (List.mem_of_getElem? e))
theorem sent_ok (B : Base B₀ mg mb) (N : Nms mg mb) (X : Def B₀ 257 fdSent (bodyOf (topStmt 23)) ["words", "sends", "end"]) (Q : Qts B₀ mg mb) (hq : Glb mg mb "quotedata" (.ref 97)) {words : List Str} {size sends : Nat} {en : Str} (O : SentOk words size sends en) (hh : A.handled = none) (hd : A.depth + 30 < recursionLimit) {s : Shared} {E : Value → Shared → Prop} {vs : List Value}
    (g : Sub B₀ s.heap) (low : Low mu s.heap) (r : Rps (Hid mu s.heap) vs [strL words, .int sends, .str en]) :
    wpAny (model theProg w) A (call (.ref 257) vs) (fun v s' => Rp (Hid mu s'.heap) v (.dct theProg w words ((List.range words.length).map fun j => .str (sentOf (laidAt size (Txt.split (mailAt words size en sends) crlfS) (Txt.split (mailAt words size en sends) crlfS).length) j))) ∧ Kp s s') E s := by
  refine call_st B X (by omega) g low r (by rw [r.length]; rfl) ?_ fun s₁ S E => ?_
  · replace r := rps_cons r; obtain ⟨_, _, rfl, r1, r2⟩ := r
    replace r2 := rps_cons r2; obtain ⟨_, _, rfl, r2, r3⟩ := r2
    replace r3 := rps_cons r3; obtain ⟨_, _, rfl, r3, r4⟩ := r3
    (first | obtain ⟨_, rfl⟩ := rp_int r4 | obtain ⟨_, rfl⟩ := rp_str r4 | obtain rfl := rp_raw r4 | obtain rfl := rps_nil r4 | cases r4); rfl
  have hA : (A.deeper (callEnvC fdSent s.heap.objs.size 257)).handled = none := hh
  have hdep : (A.deeper (callEnvC fdSent s.heap.objs.size 257)).depth + 20 < recursionLimit := by show A.depth + 1 + 20 < _; omega
  generalize hL : s.heap.objs.size = L at *
  show wpAny _ _ (execs (_ :: _) _) _ _ _
  have six := O.six
  have many := O.many
  obtain ⟨x0, e0, l0⟩ := O.first
  refine x_next ?_
  refine s_assign (d := .int size) S (Ev.cast (Ev.lenS B (x := x0) (Ev.idx (ds := words.map .str) (i := 0) (Ev.name rfl) Ev.cInt (by decide) (by decide) (by simp [e0])) (by omega) N.len) (by rw [l0])) (.inl ⟨rfl, rfl⟩) fun s₂ S₂ => ⟨rfl, ?_⟩
  refine x_next ?_
  refine s_assign (d := .str (mail0 words size en)) S₂ (Ev.join (x := en) (ys := (List.range size).map (rowOf words)) (Ev.name rfl) (Ev.cast (Ev.comp1 (cl := [(("words" : Str), L + 1)]) (ρf := [("words", strL words)]) (p := fun _ => true) (f := fun d => match d with | .int k => .str (rowOf words k.toNat) | _ => .none) (bs := fun d => [("k", d)]) hA
      ⟨fun x => rfl, rfl, fun y c e => cl_one rfl e, rfl, by decide +kernel⟩ (It.range1 (b := (size : Int)) B hA N.range (Ev.name rfl) (by omega) (by omega) (sz (by omega))) ⟨⟨rfl, rfl, rfl, rfl, rfl⟩, trivial⟩
      (fun C d _ => ⟨[C + 1], AsT.name (.inr ⟨rfl, rfl⟩), fun b hb => .inr (by rw [List.mem_singleton] at hb; subst hb; exact .head _)⟩) (dis_one rfl) (fun C MU d hd => Tss.nil) (fun C MU d hd _ => ?_)) ?_) ?_) (.inl ⟨rfl, rfl⟩) fun s₃ S₃ => ⟨rfl, ?_⟩
  · obtain ⟨k, hk, rfl⟩ := List.mem_map.mp hd
    have hk6 : k < size := by simpa using hk
    simp only [Int.zero_add, Int.toNat_natCast]
    obtain ⟨m1, m2⟩ := dots_ok k (by omega)
    have jl := join_len ("" : Str) (words.map fun x => Txt.item x k) (c := 1) (fun x hx => by obtain ⟨y, _, rfl⟩ := List.mem_map.mp hx; exact Nat.le_refl _)
    rw [List.length_map, show ("" : Str).length = 0 from rfl] at jl
    have sl := sum_le (f := fun y : Str => y.length) (c := 1) (words.map fun x => Txt.item x k) (fun x hx => by obtain ⟨y, _, rfl⟩ := List.mem_map.mp hx; exact Nat.le_refl _)
    rw [List.length_map] at sl
    refine Ev.cat (Ev.smul Ev.cStr (Ev.add (Ev.name rfl) Ev.cInt) m1) (Ev.join (ys := words.map fun x => Txt.item x k) Ev.cStr (Ev.cast (Ev.comp1 (cl := [(("k" : Str), C + 1)]) (ρf := [("k", .int k)]) (p := fun _ => true) (f := fun d => match d with | .str x => .str (Txt.item x k) | _ => .none) (bs := fun d => [("word", d)]) hA
      ⟨fun x => rfl, rfl, fun y c e => cl_one rfl e, rfl, by decide +kernel⟩ (It.list (ds := words.map .str) hA (Ev.name rfl) (sz (by simp; omega))) ⟨⟨rfl, rfl, rfl, rfl, rfl⟩, trivial⟩
      (fun C d _ => ⟨[C], AsT.name (.inl ⟨rfl, rfl⟩), by simp⟩) (dis_one rfl) (fun C MU d hd => Tss.nil) (fun C MU d hd _ => ?_)) ?_) (by rw [List.length_map, show ("" : Str).length = 0 from rfl]; omega)) (sz (by omega))
    · obtain ⟨x, hx, rfl⟩ := List.mem_map.mp hd
      have hlx := O.len x hx
      exact Ev.sidx (Ev.name rfl) (Ev.name rfl) (by omega) (by omega) (by omega)
    · congr 1
      rw [filt_true, List.map_map, List.map_map]; rfl
  · congr 1
    rw [filt_true, rng, List.map_map, List.map_map]
    simp
  · have h1 := sum_le (f := fun y : Str => y.length) (c := 1006) ((List.range size).map (rowOf words)) (fun x hx => by obtain ⟨k, hk, rfl⟩ := List.mem_map.mp hx; exact row_len (by have := List.mem_range.mp hk; omega) many)
    rw [List.length_map, List.length_range] at h1
    rw [List.length_map, List.length_range]
    have h2 : size * en.length ≤ 6 * 2 := Nat.mul_le_mul six O.enl
    omega
  refine x_next ?_
  have snd := O.snd
  refine s_for0 (ds := rng 0 sends) (fun i => [("mail", .str (mailAt words size en i)), ("size", .int size), ("words", strL words), ("sends", .int sends), ("end", .str en)]) (fun i => []) S₃ (It.range1 B hA N.range (Ev.name rfl) (by omega) (by omega) (sz (by omega))) (lk_refl _) rfl (fun i => rfl) (fun i d MU s₀ md s₄ E v ed hM S₄ rv => ?_) fun s₅ S₅ => ⟨rfl, ?_⟩
  · have hi : i < sends := by
      have := (List.getElem?_eq_some_iff.mp ed).1
      simpa [rng] using this
    refine S₄.assign (.inl ⟨rfl, rfl⟩) rv fun s₅ S₅ => ?_
    refine x_next ?_
    refine s_assign (d := .str (quoteS (mailAt words size en i))) S₅ (Ev.call (ds := [.str (mailAt words size en i)]) B hq (CW.fn (let ⟨oc, od, sl, e⟩ := Q.d.obj; ⟨oc, od, _, sl, e⟩)) (.cons (Ev.name rfl) rfl .nil) fun vs s E r F => quote_ok B Q (O.mail i (by omega)) hA hdep F.g F.low r) (.inl ⟨rfl, rfl⟩) fun s₆ S₆ => ⟨rfl, ?_⟩
    exact wpAny_execs_nil ⟨rfl, S₆.weak (lk_cons (lk_skip rfl (lk_skip rfl (lk_refl _))))⟩
  rw [rng_len, show ((sends : Int) - 0).toNat = sends by omega] at S₅
  refine x_next ?_
  refine s_new S₅ (EvN.lmul (d := .str ("" : Str)) (k := (size : Int)) (Ev.list (.cons Ev.cStr rfl .nil) (sz (by simp))) (Ev.name rfl) (by omega) (by omega)) (.inr ⟨rfl, rfl⟩) fun a s₆ ha S₆ => ⟨rfl, ?_⟩
  refine x_next ?_
  have hrows := O.rows sends (Nat.le_refl _)
  have hrowl := O.rowl
  have hmail := O.mail sends (Nat.le_refl _)
  generalize hrow : Txt.split (mailAt words size en sends) crlfS = rows at *
  refine s_for0 (ds := rows.map .str) (fun i => [("laid", .raw (.ref a)), ("mail", .str (mailAt words size en sends)), ("size", .int size), ("words", strL words), ("sends", .int sends), ("end", .str en)]) (fun i => [(a, (laidAt size rows i).map .str)]) S₆ ?_ (lk_refl _) ?_ (fun i => rfl) (fun i d MU s₀ md s₇ E v ed hM S₇ rv => ?_) fun s₈ S₈ => ⟨rfl, ?_⟩
  · refine It.list hA (Ev.cast (Ev.split (x := mailAt words size en sends) (y := crlfS) (Ev.name rfl) Ev.cStr (by decide +kernel) (sz (by show (mailAt words size en sends).cps.size ≤ _; omega)) (sz hrows.2)) (by rw [hrow])) (sz (by rw [List.length_map]; exact hrows.1))
  · simp [laidAt]
  · rw [List.getElem?_map] at ed
    cases ew : rows[i]? with
    | none => rw [ew] at ed; cases ed
    | some x =>
      rw [ew] at ed
      cases ed
      have hx := hrowl x (List.mem_of_getElem? ew)
      refine S₇.assign (.inl ⟨rfl, rfl⟩) rv fun s₈ S₈ => ?_
      refine x_next ?_
      refine s_assign (d := .int (Txt.count x ("." : Str))) S₈ (Ev.count (Ev.name rfl) Ev.cStr) (.inl ⟨rfl, rfl⟩) fun s₉ S₉ => ⟨rfl, ?_⟩
      refine x_next ?_
      have p1 : 0 ≤ (Txt.count x ("." : Str) - 1).fmod size := Int.fmod_nonneg_of_pos _ (by have := O.pos; omega)
      have p2 : (Txt.count x ("." : Str) - 1).fmod size < size := Int.fmod_lt_of_pos _ (by have := O.pos; omega)
      refine s_set (ω₁ := []) (k := (Txt.count x ("." : Str) - 1).fmod size) (d := .str (Txt.slice x (some (Txt.count x ("." : Str))) none)) S₉ (Ev.scut (Ev.name rfl) (.some (Ev.name rfl)) .none (sz (by omega))) (Ev.name rfl) (Ev.mod (Ev.sub (Ev.name rfl) Ev.cInt) (Ev.name rfl) (by have := O.pos; omega)) p1 (by rw [List.length_map, laid_len]; exact p2) (sz (by rw [List.length_map, laid_len]; omega)) fun s₁₀ S₁₀ => ⟨rfl, ?_⟩
      refine wpAny_execs_nil ⟨rfl, ?_⟩
      have e : (laidAt size rows (i + 1)).map D.str = ((laidAt size rows i).map D.str).set ((Txt.count x ("." : Str) - 1).fmod size).toNat (.str (Txt.slice x (some (Txt.count x ("." : Str))) none)) := by rw [laid_succ ew]; unfold layRow; rw [List.map_set]
      show St B₀ s₀ md _ MU _ [(a, (laidAt size rows (i + 1)).map D.str)] s₁₀
      rw [e]
      exact S₁₀.weak (lk_skip rfl (lk_skip rfl (lk_refl _)))
  rw [List.length_map] at S₈
  have S₉ := S₈.freeze (x := "laid") ha rfl
  refine wpAny_execs_cons (s_return (d := .dct theProg w words ((List.range words.length).map fun j => .str (sentOf (laidAt size rows rows.length) j))) S₉ ?_ fun v s₁₀ rv S₁₀ => S₁₀.done rv)
  have hll := laid_len (size := size) (rows := rows) rows.length
  have hls := laid_small (size := size) hrowl rows.length
  generalize laidAt size rows rows.length = laid at *
  refine Ev.cast (Ev.dcomp (ds := rng 0 words.length) (cl := [(("words" : Str), L + 1), (("laid" : Str), L + 1 + 1)]) (ρf := [("laid", strL laid), ("words", strL words)]) (kf := fun d => match d with | .int j => words.getD j.toNat ("" : Str) | _ => ("" : Str)) (f := fun d => match d with | .int j => .str (sentOf laid j.toNat) | _ => .none) (bs := fun d => [("j", d)]) hA
      ⟨fun x => rfl, rfl, fun y c e => cl_cons rfl (cl_one rfl) e, rfl, by decide +kernel⟩ (It.range1 (b := (words.length : Int)) B hA N.range (Ev.cast (Ev.lenL (ds := words.map .str) B (Ev.name rfl) (by rw [List.length_map]; omega) N.len) (by rw [List.length_map])) (by omega) (by omega) (sz (by omega))) ⟨⟨rfl, rfl, rfl, rfl, rfl⟩, ⟨rfl, rfl, rfl, rfl, rfl⟩, trivial⟩
      (fun C d _ => ⟨[C + 1], AsT.name (.inr ⟨rfl, rfl⟩), fun b hb => .inr (by rw [List.mem_singleton] at hb; subst hb; exact .head _)⟩) (dis_one rfl) (fun C MU d hd => ?_) (fun C MU d hd => ?_) ?_) ?_
  · obtain ⟨j, hj, rfl⟩ := List.mem_map.mp hd
    have hj' : j < words.length := by simpa using hj
    simp only [Int.zero_add, Int.toNat_natCast]
    exact Ev.idx (ds := words.map .str) (i := (j : Int)) (Ev.name rfl) (Ev.name rfl) (by omega) (by omega) (by simp [hj'])
  · obtain ⟨j, hj, rfl⟩ := List.mem_map.mp hd
    have hj' : j < words.length := by simpa using hj
    simp only [Int.zero_add, Int.toNat_natCast]
    refine Ev.join (ys := laid.map fun x => Txt.slice x (some (j : Int)) (some ((j : Int) + 1))) Ev.cStr (Ev.cast (Ev.comp1 (cl := [(("j" : Str), C + 1)]) (ρf := [("j", .int j)]) (p := fun _ => true) (f := fun d => match d with | .str x => .str (Txt.slice x (some (j : Int)) (some ((j : Int) + 1))) | _ => .none) (bs := fun d => [("signs", d)]) hA
      ⟨fun x => rfl, rfl, fun y c e => cl_one rfl e, rfl, by decide +kernel⟩ (It.list (ds := laid.map .str) hA (Ev.name rfl) (sz (by simp; omega))) ⟨⟨rfl, rfl, rfl, rfl, rfl⟩, trivial⟩
      (fun C d _ => ⟨[C], AsT.name (.inl ⟨rfl, rfl⟩), by simp⟩) (dis_one rfl) (fun C MU d hd => Tss.nil) (fun C MU d hd _ => ?_)) ?_) ?_
    · obtain ⟨x, hx, rfl⟩ := List.mem_map.mp hd
      have hlx := hls x hx
      exact Ev.scut (Ev.name rfl) (.some (Ev.name rfl)) (.some (Ev.add (Ev.name rfl) Ev.cInt)) (sz (by omega))
    · congr 1
      rw [filt_true, List.map_map, List.map_map]; rfl
    · have h1 := sum_le (f := fun y : Str => y.length) (c := 40000) (laid.map fun x => Txt.slice x (some (j : Int)) (some ((j : Int) + 1))) (fun x hx => by obtain ⟨y, hy, rfl⟩ := List.mem_map.mp hx; exact Nat.le_trans (Txt.slice_le _ _ _) (hls y hy))
      rw [List.length_map] at h1
      rw [List.length_map, show ("" : Str).length = 0 from rfl]
      omega
  · have e : (rng 0 words.length).map (fun d => match d with | .int j => words.getD j.toNat ("" : Str) | _ => ("" : Str)) = words := by
      unfold rng
      rw [List.map_map]
      refine List.ext_getElem (by simp) fun i h1 h2 => by simp [List.getD, h2]
    rw [e]; exact O.nod
  · have e : (rng 0 words.length).map (fun d => match d with | .int j => words.getD j.toNat ("" : Str) | _ => ("" : Str)) = words := by
      unfold rng
      rw [List.map_map]
      refine List.ext_getElem (by simp) fun i h1 h2 => by simp [List.getD, h2]
    rw [e]
    congr 1
    unfold rng
    rw [List.map_map]
    simp
end
end Mine
end
end
section
set_option Elab.async false
noncomputable section
open PySem PySem.W PySem.Calls PyProof.Rows
set_option maxRecDepth 100000
set_option linter.unusedVariables false
namespace Mine
/-- what a def's data shows, its names all local -/
structure FnOk (fd : FuncData) (body : List Stmt) (names : List Str) : Prop where
  body : fd.body = .stmts body
  gl : fd.globals = mainGlobals
  bl : fd.builtins = builtinsNs
  co : fd.scope.isCoroutine = false
  gen : fd.scope.isGenerator = false
  kind : fd.scope.kind = .function
  nodup : names.Nodup
  loc : ∀ n ∈ names, fd.scope.names.lookup n = some .local
  cell : ∀ x ∈ fd.scope.names, x.2 ≠ .cell
theorem lookup_zip {names : List Str} (hn : names.Nodup) : ∀ {vals : List Value}, vals.length = names.length → ∀ {x : Str} {v : Value}, (x, v) ∈ names.zip vals → (names.zip vals).reverse.lookup x = some v := by
  intro vals hl x v hm
  have nd : ((names.zip vals).reverse.map (·.1)).Nodup := by
    rw [List.map_reverse, List.map_fst_zip (Nat.le_of_eq hl.symm)]
    exact List.pairwise_reverse.mpr (hn.imp fun h => h.symm)
  have gen : ∀ (l : List (Str × Value)), (l.map (·.1)).Nodup → (x, v) ∈ l → l.lookup x = some v := fun l => by
    induction l with
    | nil => intro _ h; cases h
    | cons p r ih =>
      intro hn h
      rw [List.map_cons, List.nodup_cons] at hn
      rw [show p = (p.1, p.2) from rfl, List.lookup_cons]
      rcases List.mem_cons.mp h with e | h
      · subst e; simp
      · have : (x == p.1) = false := by
          cases q : x == p.1 with
          | false => rfl
          | true => exact absurd (List.mem_map.mpr ⟨(x, v), h, eq_of_beq q⟩) hn.1
        rw [this]; exact ih hn.2 h
  exact gen _ nd (List.mem_reverse.mpr hm)
section
variable {prog : Program} {w : World} {B₀ : Heap} {A : Around} {env : Env} {mu md : List Addr} {ρ : List (Str × D)} {ω : List (Addr × List D)} {s₀ s s' : Shared} {E : Value → Shared → Prop}
/-- a function of the heap is called, whatever binds its places -/
theorem call_genC {mg mb : Str → Option Value} {R : Result → Shared → Prop} (B : Base B₀ mg mb) {a : Addr} {fd : FuncData} {body : List Stmt} {names : List Str} (X : FnOk fd body names) {oc : Value} {od : Option Addr} {sl : Array (Option Value)} (ho : s.heap.get? a = some ⟨oc, od, .func fd, sl⟩) (hcd : s.heap.CodeRec fd.code fd.qualname)
    {vals : List Value} {kw : List (Str × Value)} {ds : List D} {ρc : List (Str × D)} (hroom : A.depth < recursionLimit) (g : Sub B₀ s.heap) (low : Low mu s.heap)
    (hcl : ∀ n c, fd.closure.lookup n = some c → c ∈ mu ∧ B₀.get? c = none ∧ ∃ v, s.heap.IsCell c v) (hinj : ∀ n n' c, fd.closure.lookup n = some c → fd.closure.lookup n' = some c → n = n')
    (hρ : ∀ x d, ρc.lookup x = some d → fd.scope.names.lookup x = some .free ∧ ∃ c v, fd.closure.lookup x = some c ∧ s.heap.IsCell c (some v) ∧ Rp (Hid mu s.heap) v d)
    (hb : ∀ (A' : Around) (E' : Value → Shared → Prop) (Q' : List (Str × Value) → Shared → Prop), (∀ us s₂, Kp s s₂ → Rps (Hid mu s₂.heap) us ds → us.length = names.length → Q' (names.zip us) s₂) → wpAny (model prog w) A' (bindArgs fd ⟨vals, kw⟩) Q' E' s)
    (h : ∀ L s₁, s.heap.get? L = none → Kp s s₁ → Frm B₀ (callEnv fd L a) (L :: mu) (names.zip ds ++ ρc) s₁.heap → ∀ E, wpAny (model prog w) (A.deeper (callEnv fd L a)) (execs body (callEnv fd L a)) (fun f s' => R (.ok (.ret (match f with | .ret v => v | _ => .none))) s') E s₁) :
    codeAny (model prog w) A (.call (.ref a) ⟨vals, kw⟩) R s := by
  refine codeAny_call_function hroom ho rfl X.co X.gen X.body hcd (hb _ _ _ fun us s₂ K r hl => ?_)
  refine wpAny_newFunctionEnv X.cell (fun x hx => X.loc x.1 (List.of_mem_zip (show (x.1, x.2) ∈ names.zip us from hx)).1) (fun h₀ hns hsb => ⟨(B.nolimit.keeps (g.trans K.sub)).fresh _ hsb, codeAny_func ?_⟩) X.kind
  generalize hL : s₂.heap.objs.size = L at *
  have nL2 : s₂.heap.get? L = none := by subst hL; exact size_none _
  have nL : s.heap.get? L = none := by cases q : s.heap.get? L with | none => rfl | some o => rw [K.sub _ _ q] at nL2; cases nL2
  have k2 : Sub s₂.heap h₀ := fun b o e => hsb.extBut b o (fun q => by rw [q, nL2] at e; cases e) (Heap.get?_push_of_some _ e)
  obtain ⟨h₂, tk₂, rfl, kk⟩ := id K
  have K1 : Kp s { s with heap := h₀, toks := tk₂ + (names.zip us).length } := Kp.mk fun b o e => k2 _ _ (kk _ _ e)
  have base : ∀ b, s.heap.get? b = none → B₀.get? b = none := fun b e => by cases q : B₀.get? b with | none => rfl | some o => rw [g _ _ q] at e; cases e
  have hid : Sub (Hid mu h₂) (Hid (L :: mu) h₀) := hid_add k2 nL2
  have hids : Sub (Hid mu s.heap) (Hid (L :: mu) h₀) := hid_add (K1.sub) nL
  refine wpAny_mono (h L { s with heap := h₀, toks := tk₂ + (names.zip us).length } nL K1 ⟨g.trans K1.sub, X.kind, X.gl, X.bl, fun b hb => ?_, ⟨⟨.head _, base _ nL⟩, fun n c e => ?_, fun n n' c e e' => hinj n n' c e e'⟩, ⟨_, hns⟩, fun n c e => ?_, fun x d e => ?_⟩ _) (fun f s' x => x) fun _ _ x => x
  · rcases List.mem_cons.mp hb with q | hb
    · obtain ⟨o, _, _, e, _⟩ := hns; exact ⟨o, q ▸ e⟩
    · obtain ⟨o, e⟩ := low b hb; exact ⟨o, K1.sub _ _ e⟩
  · obtain ⟨m, b, v, o, eo, _⟩ := hcl n c e
    refine ⟨.tail _ m, b, fun q => ?_⟩
    have q' : c = L := q
    rw [q', nL] at eo; cases eo
  · obtain ⟨m, b, v, i⟩ := hcl n c e
    exact ⟨v, i.keeps K1.sub⟩
  · rw [List.lookup_append] at e
    cases q : (names.zip ds).lookup x with
    | some d' =>
      rw [q] at e; cases e
      obtain ⟨v, hm, rv⟩ := zip_get r q
      refine ⟨v, ?_, rv.mono hid⟩
      have hk : (callEnv fd L a).kindOf x = some .local := X.loc x (List.of_mem_zip hm).1
      unfold VarAt; rw [hk]
      exact ⟨_, hns, lookup_zip X.nodup hl hm⟩
    | none =>
      rw [q] at e
      obtain ⟨hk, c, v, ec, i, rv⟩ := hρ x d e
      refine ⟨v, ?_, rv.mono hids⟩
      have hk' : (callEnv fd L a).kindOf x = some .free := hk
      unfold VarAt; rw [hk']
      exact ⟨c, ec, i.keeps K1.sub⟩
/-- the same, as a value -/
theorem call_gen {mg mb : Str → Option Value} (B : Base B₀ mg mb) {a : Addr} {fd : FuncData} {body : List Stmt} {names : List Str} (X : FnOk fd body names) {oc : Value} {od : Option Addr} {sl : Array (Option Value)} (ho : s.heap.get? a = some ⟨oc, od, .func fd, sl⟩) (hcd : s.heap.CodeRec fd.code fd.qualname)
    {vals : List Value} {kw : List (Str × Value)} {ds : List D} {ρc : List (Str × D)} {Q : Value → Shared → Prop} (hroom : A.depth < recursionLimit) (g : Sub B₀ s.heap) (low : Low mu s.heap)
    (hcl : ∀ n c, fd.closure.lookup n = some c → c ∈ mu ∧ B₀.get? c = none ∧ ∃ v, s.heap.IsCell c v) (hinj : ∀ n n' c, fd.closure.lookup n = some c → fd.closure.lookup n' = some c → n = n')
    (hρ : ∀ x d, ρc.lookup x = some d → fd.scope.names.lookup x = some .free ∧ ∃ c v, fd.closure.lookup x = some c ∧ s.heap.IsCell c (some v) ∧ Rp (Hid mu s.heap) v d)
    (hb : ∀ (A' : Around) (E' : Value → Shared → Prop) (Q' : List (Str × Value) → Shared → Prop), (∀ us s₂, Kp s s₂ → Rps (Hid mu s₂.heap) us ds → us.length = names.length → Q' (names.zip us) s₂) → wpAny (model prog w) A' (bindArgs fd ⟨vals, kw⟩) Q' E' s)
    (h : ∀ L s₁, s.heap.get? L = none → Kp s s₁ → Frm B₀ (callEnv fd L a) (L :: mu) (names.zip ds ++ ρc) s₁.heap → ∀ E, wpAny (model prog w) (A.deeper (callEnv fd L a)) (execs body (callEnv fd L a)) (fun f s' => Q (match f with | .ret v => v | _ => .none) s') E s₁) :
    wpAny (model prog w) A (call (.ref a) vals kw) Q E s :=
  wpAny_call (call_genC B X ho hcd hroom g low hcl hinj hρ hb h)
end
end Mine
end
end
section
set_option Elab.async false
noncomputable section
open PySem PySem.W PySem.Calls PyProof.Rows
set_option maxRecDepth 100000
set_option linter.unusedVariables false
set_option maxHeartbeats 1000000
namespace Mine
noncomputable def clsBody : Stmt → List Stmt
  | .ClassDef _ _ _ body _ _ _ _ _ _ _ => body
  | _ => []
noncomputable def isDefOf (n : Str) : Stmt → Bool
  | .FunctionDef m _ _ _ _ _ _ _ _ _ => m == n
  | _ => false
noncomputable def methStmt (n : Str) : Stmt := ((clsBody (topStmt 20)).find? (isDefOf n)).getD (.Pass ⟨0, 0, 0, 0⟩)
noncomputable def fdMeth (c : Addr) (n : Str) (dflt : Value) : FuncData := { fdOf c (.str (Str.ofString "cpy313.wsgiref.headers") 440) (methStmt n) with qualname := ("Headers." : Str) ++ n, defaults := dflt }
/-- signs that a header may hold -/
noncomputable def Clean (x : Str) : Prop := ∀ c ∈ x.cps.toList, 31 < c ∧ c < 127
section
variable {prog : Program} {w : World} {B₀ : Heap} {A : Around} {env : Env} {MU mu md : List Addr} {ρ : List (Str × D)} {ω : List (Addr × List D)} {s₀ s s' : Shared} {E : Value → Shared → Prop} {mg mb : Str → Option Value} {pos : Pos}
/-- a name of the top that holds v -/
theorem Ev.glb (B : Base B₀ mg mb) {x : Str} {v : Value} {np : Pos} (hg : Glb mg mb x v) (hk : env.kindOf x = some .globalImplicit := by rfl) (hd : (x == ("__debug__" : Str)) = false := by decide +kernel) : Ev prog w B₀ A env MU ρ (.Name x np) (.raw v) := fun s E F =>
  loadGlb B F hg hk ⟨.raw _, Kp.refl s⟩ hd
theorem Ts.isV {l r : Expr} {a b : Value} (hl : Ev prog w B₀ A env MU ρ l (.raw a)) (hr : Ev prog w B₀ A env MU ρ r (.raw b)) (hp : plainIs a b = true) (hm : behindInMarks .Is r = false := by with_unfolding_all rfl) : Ts prog w B₀ A env MU ρ (.Compare l [.Is] [r] pos) (a == b) :=
  Ts.cmp hl hr (fun va vb s E ra rb => by (first | obtain ⟨_, rfl⟩ := rp_int ra | obtain ⟨_, rfl⟩ := rp_str ra | obtain rfl := rp_raw ra | obtain rfl := rps_nil ra | cases ra); (first | obtain ⟨_, rfl⟩ := rp_int rb | obtain ⟨_, rfl⟩ := rp_str rb | obtain rfl := rp_raw rb | obtain rfl := rps_nil rb | cases rb); exact wpAny_is_plain hp ⟨rfl, Kp.refl s⟩) hm
theorem Ev.typeS (B : Base B₀ mg mb) {e : Expr} {x : Str} {np : Pos} (hg : Glb mg mb "type" (.type "type")) (he : Ev prog w B₀ A env MU ρ e (.str x)) (hs : starEach [e] env = [(false, eval e env)] := by rfl) (hk : env.kindOf "type" = some .globalImplicit := by rfl) :
    Ev prog w B₀ A env MU ρ (.Call (.Name "type" np) [e] [] pos) (.raw (.type "str")) :=
  Ev.call B hg (CW.type _) (.cons he hs .nil) (fun vs s E r F => by
    replace r := rps_cons r; obtain ⟨_, _, rfl, r1, r2⟩ := r
    (first | obtain ⟨_, rfl⟩ := rp_int r2 | obtain ⟨_, rfl⟩ := rp_str r2 | obtain rfl := rp_raw r2 | obtain rfl := rps_nil r2 | cases r2); (first | obtain ⟨_, rfl⟩ := rp_int r1 | obtain ⟨_, rfl⟩ := rp_str r1 | obtain rfl := rp_raw r1 | obtain rfl := rps_nil r1 | cases r1)
    exact call_type_of (typeIs_str _ _ _) (by decide +kernel) ⟨.raw _, Kp.refl s⟩) hk
theorem Ts.bool {e : Expr} {b : Bool} (he : Ev prog w B₀ A env MU ρ e (.bool b)) (hi : ∀ whole, isTrue e env whole = (do let v ← whole; standAt e.pos; holding [v] (truthy v)) := by intro _; rfl) : Ts prog w B₀ A env MU ρ e b := fun s E F =>
  wpAny_isTrue_value (wpAny_mono (he s E F) (fun v s' ⟨r, K⟩ => by (first | obtain ⟨_, rfl⟩ := rp_int r | obtain ⟨_, rfl⟩ := rp_str r | obtain rfl := rp_raw r | obtain rfl := rps_nil r | cases r); exact wpAny_truthy_bool ⟨rfl, K⟩) fun _ _ x => x) (hi _)
/-- a pattern that finds nothing -/
theorem Ts.searchNo {o e : Expr} {a : Addr} {code : Array Nat} {x : Str} {apos : Pos} (P : Pat B₀ a code) (ho : Ev prog w B₀ A env MU ρ o (.raw (.ref a))) (he : Ev prog w B₀ A env MU ρ e (.str x)) (hx : x.cps.size ≤ 100000) (hn : Ans (Sre.forSearch code x.cps 0 0 x.cps.size false) none)
    (hs : starEach [e] env = [(false, eval e env)] := by rfl) (hbase : attributeBase o "search" env (eval o env) = eval o env := by rfl) (hline : (apos.endLine == pos.line) = true := by rfl)
    (hi : ∀ whole, isTrue (.Call (.Attribute o "search" apos) [e] [] pos) env whole = (do let v ← whole; standAt pos; holding [v] (truthy v)) := by intro _; rfl) :
    Ts prog w B₀ A env MU ρ (.Call (.Attribute o "search" apos) [e] [] pos) false := fun s E F => by
  refine wpAny_isTrue_value ?_ (hi _)
  refine (meth_of (T := "re.Pattern") (id := "re.Pattern.search") (ds := [.str x]) plainAttrs_re slot_re_search type_re_search F ho (.cons he hs .nil) (fun v s' rv K => ?_) (fun v vs s' rv r K => ?_) hbase (by rw [hs]; rfl) hline)
  · (first | obtain ⟨_, rfl⟩ := rp_int rv | obtain ⟨_, rfl⟩ := rp_str rv | obtain rfl := rp_raw rv | obtain rfl := rps_nil rv | cases rv)
    obtain ⟨p, fl, b, its, n, e1, e2, e3⟩ := id P.obj
    have := (F.keeps K).g _ _ e1
    exact ⟨⟨_, this, rfl⟩, fun a' q => by cases q; exact ⟨_, this, rfl⟩⟩
  · (first | obtain ⟨_, rfl⟩ := rp_int rv | obtain ⟨_, rfl⟩ := rp_str rv | obtain rfl := rp_raw rv | obtain rfl := rps_nil rv | cases rv)
    replace r := rps_cons r; obtain ⟨_, _, rfl, r1, r2⟩ := r
    (first | obtain ⟨_, rfl⟩ := rp_int r2 | obtain ⟨_, rfl⟩ := rp_str r2 | obtain rfl := rp_raw r2 | obtain rfl := rps_nil r2 | cases r2); (first | obtain ⟨_, rfl⟩ := rp_int r1 | obtain ⟨_, rfl⟩ := rp_str r1 | obtain rfl := rp_raw r1 | obtain rfl := rps_nil r1 | cases r1)
    exact search_none (P.sub ((F.keeps K).g)) (by omega) hn (wpAny_pure ⟨rfl, K⟩)
end
end Mine
end
end
section
set_option Elab.async false
noncomputable section
open PySem PySem.W PySem.Calls PyProof.Rows
set_option maxRecDepth 100000
set_option linter.unusedVariables false
set_option maxHeartbeats 1000000
namespace Mine
/-- a function of the top -/
structure FnAtB (B₀ : Heap) (a : Addr) (fd : FuncData) : Prop where
  obj : ∃ oc od sl, B₀.get? a = some ⟨oc, od, .func fd, sl⟩
  code : B₀.CodeRec fd.code fd.qualname
noncomputable def fdConv : FuncData := fdMeth 141 "_convert_string_type" .none
structure HdF (B₀ : Heap) (mg mb : Str → Option Value) : Prop where
  ty : Glb mg mb "type" (.type "type")
  st : Glb mg mb "str" (.type "str")
  rn : Glb mg mb "_name_disallowed_re" (.ref 107)
  rv : Glb mg mb "_value_disallowed_re" (.ref 112)
  pn : Pat B₀ 107 codeN
  pv : Pat B₀ 112 codeV
  conv : FnAtB B₀ 142 fdConv
theorem clean_get {x : Str} (h : Clean x) {i : Nat} (hi : i < x.cps.size) : 31 < x.cps.getD i 0 ∧ x.cps.getD i 0 < 127 := by
  have : x.cps.getD i 0 = x.cps[i] := by simp [Array.getD, hi]
  rw [this]
  exact h _ (by simp)
theorem cleanN {x : Str} (h : Clean x) : Ans (Sre.forSearch codeN x.cps 0 0 x.cps.size false) none :=
  find_none (by decide +kernel) fun i hi seen => inN (clean_get h hi).1 (Nat.ne_of_lt (clean_get h hi).2) seen
theorem cleanV {x : Str} (h : Clean x) : Ans (Sre.forSearch codeV x.cps 0 0 x.cps.size false) none :=
  find_none (by decide +kernel) fun i hi seen => inV (clean_get h hi).1 (clean_get h hi).2 seen
section
variable {w : World} {B₀ : Heap} {mg mb : Str → Option Value} {A : Around} {mu : List Addr}
theorem conv_fn : FnOk fdConv (bodyOf (methStmt "_convert_string_type")) ["self", "value", "name"] :=
  ⟨rfl, rfl, rfl, rfl, rfl, rfl, by decide +kernel, by decide +kernel, by decide +kernel⟩
theorem code_keeps {B₀ h : Heap} {c : Value} {q : Str} (k : Sub B₀ h) (x : B₀.CodeRec c q) : h.CodeRec c q := let ⟨c, o, vs, t, e1, e2, e3⟩ := x; ⟨c, o, vs, t, e1, k _ _ e2, e3⟩
theorem conv_ok (B : Base B₀ mg mb) (H : HdF B₀ mg mb) {x : Str} {b : Bool} {self : Value} {t : Tok} (hc : Clean x) (hx : x.cps.size ≤ 100000) (hh : A.handled = none) (hd : A.depth + 20 < recursionLimit) {s : Shared} {E : Value → Shared → Prop}
    (g : Sub B₀ s.heap) (low : Low mu s.heap) :
    wpAny (model theProg w) A (call (.ref 142) [self, .str x t] [("name", .bool b)]) (fun v s' => Rp (Hid mu s'.heap) v (.str x) ∧ Kp s s') E s := by
  obtain ⟨oc, od, sl, eo⟩ := H.conv.obj
  refine call_gen (ds := [.raw self, .str x, .bool b]) (ρc := []) B conv_fn (g _ _ eo) (code_keeps g H.conv.code) (by omega) g low (fun n c e => by cases e) (fun n n' c e => by cases e) (fun y d e => by cases e)
    (fun A' E' Q' k => wpAny_of_eq (show bindArgs fdConv ⟨[self, .str x t], [("name", .bool b)]⟩ = pure ([("self" : Str), "value", "name"].zip [self, .str x t, .bool b]) from rfl) (k _ s (Kp.refl s) (.cons (.raw _) (.cons (.str _ _) (.cons (.bool _) .nil))) rfl)) fun L s₁ nL K F E => ?_
  have S : St B₀ s [] (callEnv fdConv L 142) ([L] ++ mu) _ [] s₁ := ⟨⟨F, fun _ h => (nomatch h), List.Pairwise.nil⟩, K.kb, .inr nL, (fun n c _ e => by cases e), fun _ h => (nomatch h)⟩
  show wpAny _ _ (execs (_ :: _) _) _ _ _
  refine wpAny_execs_cons (s_if S (Ts.isV (Ev.typeS B H.ty (Ev.name rfl)) (Ev.glb B H.st) rfl) fun s₂ S₂ => ?_)
  show wpAny _ _ (execs (_ :: _) _) _ _ _
  refine x_next ?_
  cases b with
  | true =>
    refine s_assign (d := .raw (.ref 107)) S₂ (Ev.ite (Ts.bool (Ev.name rfl)) (fun _ => Ev.glb B H.rn) (fun q => by cases q)) (.inl ⟨rfl, rfl⟩) fun s₃ S₃ => ⟨rfl, ?_⟩
    refine x_next ?_
    refine s_if S₃ (Ts.searchNo H.pn (Ev.name rfl) (Ev.name rfl) hx (cleanN hc)) fun s₄ S₄ => ?_
    refine wpAny_execs_nil ⟨rfl, wpAny_execs_cons (s_return S₄ (Ev.name rfl) fun v s₅ rv S₅ => S₅.done rv)⟩
  | false =>
    refine s_assign (d := .raw (.ref 112)) S₂ (Ev.ite (Ts.bool (Ev.name rfl)) (fun q => by cases q) (fun _ => Ev.glb B H.rv)) (.inl ⟨rfl, rfl⟩) fun s₃ S₃ => ⟨rfl, ?_⟩
    refine x_next ?_
    refine s_if S₃ (Ts.searchNo H.pv (Ev.name rfl) (Ev.name rfl) hx (cleanV hc)) fun s₄ S₄ => ?_
    refine wpAny_execs_nil ⟨rfl, wpAny_execs_cons (s_return S₄ (Ev.name rfl) fun v s₅ rv S₅ => S₅.done rv)⟩
end
end Mine
end
end
section
set_option Elab.async false
noncomputable section
open PySem PySem.W PySem.Calls PyProof.Rows
set_option maxRecDepth 100000
set_option linter.unusedVariables false
set_option maxHeartbeats 1000000
namespace Mine
section
variable {B₀ B₁ : Heap} {mg mb : Str → Option Value}
theorem Base.mono (B : Base B₀ mg mb) (k : Sub B₀ B₁) : Base B₁ mg mb :=
  ⟨B.g.keeps k, B.b.keeps k, B.nolimit.keeps k, let ⟨mc, n, e⟩ := B.nodigits; ⟨mc, n.keeps k, e⟩, B.builtins⟩
theorem FnAtB.mono {a : Addr} {fd : FuncData} (x : FnAtB B₀ a fd) (k : Sub B₀ B₁) : FnAtB B₁ a fd := ⟨let ⟨oc, od, sl, e⟩ := x.obj; ⟨oc, od, sl, k _ _ e⟩, code_keeps k x.code⟩
theorem HdF.mono (H : HdF B₀ mg mb) (k : Sub B₀ B₁) : HdF B₁ mg mb := ⟨H.ty, H.st, H.rn, H.rv, H.pn.sub k, H.pv.sub k, H.conv.mono k⟩
theorem In.mono {K : Frag} (X : K.In B₀) (k : Sub B₀ B₁) : K.In B₁ := fun a o e => k _ _ (X a o e)
end
section
variable {prog : Program} {w : World} {B₀ : Heap} {A : Around} {env : Env} {MU mu md : List Addr} {ρ : List (Str × D)} {ω : List (Addr × List D)} {s₀ s s' : Shared} {E : Value → Shared → Prop} {mg mb : Str → Option Value} {pos : Pos}
/-- all that stands becomes base -/
theorem St.rebase (S : St B₀ s₀ md env MU ρ ω s) : St (Hid MU s.heap) s₀ md env MU ρ ω s := by
  have no : ∀ b, b ∈ MU → (Hid MU s.heap).get? b = none := fun b hb => hideAll_none MU hb
  have F := S.f
  exact ⟨⟨⟨hid_sub, F.k, F.gl, F.bl, F.low, ⟨⟨F.wf.loc.1, no _ F.wf.loc.1⟩, fun n c e => ⟨(F.wf.cel n c e).1, no _ (F.wf.cel n c e).1, (F.wf.cel n c e).2.2⟩, F.wf.inj⟩, F.ns, F.cl, F.var⟩, fun p hp => let ⟨c, a⟩ := S.fo.o p hp; ⟨c, ⟨a.mem, no _ a.mem, a.loc, a.cel⟩⟩, S.fo.d⟩, S.k, S.fl, S.fc, S.fw⟩
/-- the base is kept, the own things apart -/
theorem St.baseSub (S : St B₀ s₀ md env MU ρ ω s) (hb : ∀ b ∈ MU, B₀.get? b = none) : Sub B₀ (Hid MU s.heap) := fun b o e => hid_of (fun q => by rw [hb b q] at e; cases e) (S.f.g _ _ e)
/-- the top's facts of the class -/
structure ClsK (K : Frag) : Prop where
  ga : findIn K (.ref 243) "__getattribute__" = some (some (.builtin "object.__getattribute__"))
  gk : findIn K (.ref 243) "__getattr__" = some none
  mConv : findIn K (.ref 243) "_convert_string_type" = some (some (.ref 142))
  tConv : typeIn K (.ref 142) = some (.type "function")
  mGet : findIn K (.ref 243) "get" = some (some (.ref 190))
  tGet : typeIn K (.ref 190) = some (.type "function")
  mItems : findIn K (.ref 243) "items" = some (some (.ref 207))
  tItems : typeIn K (.ref 207) = some (.type "function")
  mAdd : findIn K (.ref 243) "add_header" = some (some (.ref 240))
  tAdd : typeIn K (.ref 240) = some (.type "function")
/-- a Headers at x whose list is at l -/
structure HdrAt (K : Frag) (B₀ : Heap) (x l : Addr) : Prop where
  inst : ∃ ox od, W.InstAt B₀ x ox 243 (some od) ∧ findObj K 243 (some od) "_headers" = some (.value (.ref l)) ∧
    (∀ n ∈ [("_convert_string_type" : Str), "get", "items", "add_header"], shadowIn (some od) n = some false)
theorem instAt_mono {h h' : Heap} {x C : Addr} {ox : Obj} {od : Option Obj} (I : W.InstAt h x ox C od) (k : Sub h h') : W.InstAt h' x ox C od := by
  refine ⟨k _ _ I.at_, I.cls, I.no, ?_⟩
  have d := I.dict
  split at d
  · exact k _ _ d
  · trivial
  · exact d.elim
theorem HdrAt.mono {K : Frag} {B₁ : Heap} {x l : Addr} (H : HdrAt K B₀ x l) (k : Sub B₀ B₁) : HdrAt K B₁ x l := let ⟨ox, od, I, r⟩ := H.inst; ⟨ox, od, instAt_mono I k, r⟩
/-- x._headers -/
theorem Ev.headers {K : Frag} (X : K.In B₀) (C : ClsK K) {x l : Addr} (H : HdrAt K B₀ x l) {e : Expr} (he : Ev prog w B₀ A env MU ρ e (.raw (.ref x)))
    (ha : eval (.Attribute e "_headers" pos) env = (do
      let o ← eval e env
      standAt pos.atName
      let r ← holding [o] (getAttr o "_headers" true)
      letTemporaryGo e o r
      pure r) := by with_unfolding_all rfl) : Ev prog w B₀ A env MU ρ (.Attribute e "_headers" pos) (.raw (.ref l)) := fun s E F =>
  Attribute_any_ (wpAny_mono (he s E F) (fun v s₁ ⟨r, K₁⟩ => by
    (first | obtain ⟨_, rfl⟩ := rp_int r | obtain ⟨_, rfl⟩ := rp_str r | obtain rfl := rp_raw r | obtain rfl := rps_nil r | cases r)
    obtain ⟨ox, od, I, f, _⟩ := H.inst
    have g := (F.keeps K₁).g
    exact get_value (In.mono X g) (instAt_mono I g) C.ga f rfl ⟨.raw _, K₁.trans (Kp.tok s₁ _)⟩) fun _ _ x => x) ha
end
end Mine
end
end
section
set_option Elab.async false
noncomputable section
open PySem PySem.W PySem.Calls PyProof.Rows
set_option maxRecDepth 100000
set_option linter.unusedVariables false
set_option maxHeartbeats 1000000
namespace Mine
section
variable {w : World} {B₀ : Heap} {A : Around} {env : Env} {MU mu md : List Addr} {ρ : List (Str × D)} {ω : List (Addr × List D)} {s₀ s s' : Shared} {E : Value → Shared → Prop} {mg mb : Str → Option Value} {pos : Pos}
/-- self._convert_string_type(e, name=..) -/
theorem Ev.conv {K : Frag} (X : K.In B₀) (C : ClsK K) (B : Base B₀ mg mb) (HF : HdF B₀ mg mb) {x0 l : Addr} (H : HdrAt K B₀ x0 l) {o e kv : Expr} {x : Str} {b : Bool} {apos kp : Pos} (hc : Clean x) (hx : x.cps.size ≤ 100000) (hh : A.handled = none) (hd : A.depth + 20 < recursionLimit)
    (ho : Ev theProg w B₀ A env MU ρ o (.raw (.ref x0))) (he : Ev theProg w B₀ A env MU ρ e (.str x)) (hk : Ev theProg w B₀ A env MU ρ kv (.bool b)) {pl : Sem Bool}
    (hs : starEach [e] env = [(false, eval e env)] := by rfl)
    (hev : eval (.Call (.Attribute o "_convert_string_type" apos) [e] [⟨some "name", kv, kp⟩] pos) env = (do
      let ov ← eval o env
      standAt apos.atName
      let (f, first) ← holding [ov] (getMethod ov "_convert_string_type" pl)
      callWith pos f first (backTo pos (starEach [e] env)) (backToKw pos (keywordEach [⟨some "name", kv, kp⟩] env))) := by rfl) :
    Ev theProg w B₀ A env MU ρ (.Call (.Attribute o "_convert_string_type" apos) [e] [⟨some "name", kv, kp⟩] pos) (.str x) := fun s E F => by
  refine methodCall_KW (wpAny_mono (ho s E F) (fun v s₁ ⟨r, K₁⟩ => ?_) fun _ _ x => x) hev
  (first | obtain ⟨_, rfl⟩ := rp_int r | obtain ⟨_, rfl⟩ := rp_str r | obtain rfl := rp_raw r | obtain rfl := rps_nil r | cases r)
  obtain ⟨ox, od, I, f, sh⟩ := H.inst
  have g₁ := (F.keeps K₁).g
  refine method_fn (In.mono X g₁) (instAt_mono I g₁) C.ga C.gk C.mConv C.tConv (sh _ (.head _)) ?_
  have F₁ := F.keeps K₁
  obtain ⟨oc, od', sl, eo⟩ := HF.conv.obj
  have q := (Evs.cons he hs .nil).run (pos := pos) s₁ E F₁
  refine callWith_function_kw (o := ⟨oc, od', .func fdConv, sl⟩) (fd := fdConv) (evalArgs_kw2 (by rfl) (wpAny_mono q (fun vs s₂ ⟨rs, K₂⟩ => ?_) fun _ _ x => x) (by rw [hs]; rfl))
  refine kwAll_cons (wpAny_mono (hk s₂ E (F₁.keeps K₂)) (fun vk s₃ ⟨rk, K₃⟩ => kwAll_nil ?_) fun _ _ x => x)
  have F₃ := (F₁.keeps K₂).keeps K₃
  refine ⟨⟨F₃.g _ _ eo, rfl⟩, ?_⟩
  cases rk
  replace rs := rps_cons rs; obtain ⟨_, _, rfl, r1, r2⟩ := rs
  (first | obtain ⟨_, rfl⟩ := rp_int r2 | obtain ⟨_, rfl⟩ := rp_str r2 | obtain rfl := rp_raw r2 | obtain rfl := rps_nil r2 | cases r2); (first | obtain ⟨_, rfl⟩ := rp_int r1 | obtain ⟨_, rfl⟩ := rp_str r1 | obtain rfl := rp_raw r1 | obtain rfl := rps_nil r1 | cases r1)
  exact wpAny_mono (conv_ok B HF hc hx hh hd F₃.g F₃.low) (fun v s' ⟨a, b⟩ => ⟨a, (K₁.trans (K₂.trans K₃)).trans b⟩) fun _ _ x => x
end
end Mine
end
end
section
set_option Elab.async false
noncomputable section
open PySem PySem.W PySem.Calls PyProof.Rows
set_option maxRecDepth 100000
set_option linter.unusedVariables false
set_option maxHeartbeats 1000000
namespace Mine
section
variable {prog : Program} {w : World} {B₀ : Heap} {A : Around} {env : Env} {MU md : List Addr} {ρ : List (Str × D)} {ω : List (Addr × List D)} {s₀ s s' : Shared} {E : Value → Shared → Prop}
/-- a for loop; R, W: what holds before turn i; Bk: where a break may leave; Rt: what may be given back -/
theorem s_forP {tgt iter : Expr} {body : List Stmt} {pos : Pos} {ds : List D} {Q : Flow → Shared → Prop} (P : Nat → Prop) (R : Nat → List (Str × D)) (W : Nat → List (Addr × List D)) (Bk : List (Str × D) → List (Addr × List D) → Prop) (Rt : D → List (Addr × List D) → Prop)
    (S : St B₀ s₀ md env MU ρ ω s) (hit : It prog w B₀ A env MU ρ iter ds) (h0 : ∀ x d, (R 0).lookup x = some d → ρ.lookup x = some d) (hP0 : P 0) (hW0 : W 0 = ω) (hW : ∀ i, (W i).map (·.1) = ω.map (·.1)) (hBk : ∀ ρ' ω', Bk ρ' ω' → ω'.map (·.1) = ω.map (·.1)) (hRt : ∀ d ω', Rt d ω' → ω'.map (·.1) = ω.map (·.1))
    (hbody : ∀ i d MU' s₀ md s₁ E v, ds[i]? = some d → P i → (∀ b ∈ MU, b ∈ MU') → St B₀ s₀ md env MU' (R i) (W i) s₁ → Rp (Hid MU' s₁.heap) v d →
      wpAny (model prog w) A (assign tgt env v) (fun _ s₂ => wpAny (model prog w) A (execs body env) (fun f s₃ => match f with
        | .next | .cont => P (i + 1) ∧ St B₀ s₀ md env MU' (R (i + 1)) (W (i + 1)) s₃
        | .brk => ∃ ρ' ω', Bk ρ' ω' ∧ St B₀ s₀ md env MU' ρ' ω' s₃
        | .ret v => ∃ d ω', Rt d ω' ∧ Rp (Hid MU' s₃.heap) v d ∧ St B₀ s₀ md env MU' [] ω' s₃) E s₂) E s₁)
    (hQ : ∀ s', P ds.length → St B₀ s₀ md env MU (R ds.length) (W ds.length) s' → Q .next s') (hQb : ∀ ρ' ω' s', Bk ρ' ω' → St B₀ s₀ md env MU ρ' ω' s' → Q .next s') (hQr : ∀ d ω' v s', Rt d ω' → Rp (Hid MU s'.heap) v d → St B₀ s₀ md env MU [] ω' s' → Q (.ret v) s')
    (hs : ∀ x, foldedSetIterable iter env x = pure x := by intro _; rfl) :
    wpAny (model prog w) A (exec (.For tgt iter body [] pos) env) Q E s := by
  have inM : ∀ ω' : List (Addr × List D), ω'.map (·.1) = ω.map (·.1) → ∀ p ∈ ω', p.1 ∈ MU := fun ω' e p hp => by
    have : p.1 ∈ ω.map (·.1) := e ▸ List.mem_map.mpr ⟨p, hp, rfl⟩
    obtain ⟨q, hq, e⟩ := List.mem_map.mp this
    exact e ▸ (S.fo.o q hq).2.mem
  have toSt : ∀ {ρ' ω' s'} (P : Heap → Prop), ω'.map (·.1) = ω.map (·.1) → Res (ownOf env (ω.map (·.1))) P s s' → FO B₀ env MU ρ' ω' s'.heap → St B₀ s₀ md env MU ρ' ω' s' := fun P e r F => by
    obtain ⟨h, t, rfl, k, _⟩ := r
    refine S.of (ws := ownOf env (ω.map (·.1))) F ⟨h, t, rfl, k⟩ S.own fun p hp => ?_
    have : p.1 ∈ ω.map (·.1) := e ▸ List.mem_map.mpr ⟨p, hp, rfl⟩
    obtain ⟨q, hq, e⟩ := List.mem_map.mp this
    exact e ▸ S.fw q hq
  have drop : ∀ {ρ' ω' wr h h'}, ω'.map (·.1) = ω.map (·.1) → FO B₀ env (wr ++ MU) ρ' ω' h → (∀ b ∈ wr, b ∉ MU ∧ B₀.get? b = none) → SubB wr h h' → FO B₀ env MU ρ' ω' h' := fun e F hw sb =>
    F.drop sb S.f.wf.loc.1 (fun n c e => (S.f.wf.cel n c e).1) (inM _ e) hw
  refine for_gen (fun i MU' h => P i ∧ FO B₀ env MU' (R i) (W i) h) (fun MU' h => ∃ ρ' ω', Bk ρ' ω' ∧ FO B₀ env MU' ρ' ω' h) (fun v MU' h => ∃ d ω', Rt d ω' ∧ Rp (Hid MU' h) v d ∧ FO B₀ env MU' [] ω' h) (ownOf env (ω.map (·.1))) S.f hit (own_mem S.fo)
    (fun wr s' K hw live => ?_) (fun i wr h h' Fi hw sb live => ?_) (fun wr h h' Fi hw sb => ⟨Fi.1, drop (hW _) Fi.2 hw sb⟩) (fun i d wr s₁ E v ed hw Fi rv => ?_) (fun s' r => ?_) (fun v s' r => ?_) hs
  · have := (S.fo.hide K hw live).weak h0
    rw [← hW0] at this
    exact ⟨hP0, this⟩
  · refine ⟨Fi.1, Fi.2.ws sb (fun b hb => ⟨List.mem_append_left _ hb, (hw b hb).2, fun q => (hw b hb).1 (q ▸ S.f.wf.loc.1), fun n c e q => (hw b hb).1 (q ▸ (S.f.wf.cel n c e).1), fun p hp q => (hw b hb).1 (q ▸ inM _ (hW i) p hp)⟩) live⟩
  · have S₁ := St.start Fi.2
    rw [hW i] at S₁
    refine wpAny_mono (hbody i d (wr ++ MU) s₁ _ s₁ E v ed Fi.1 (fun b hb => List.mem_append_right _ hb) S₁ rv) (fun _ s₂ h₂ => wpAny_mono h₂ (fun f s₃ h₃ => ?_) fun _ _ x => x) fun _ _ x => x
    cases f with
    | next => exact h₃.2.res ⟨h₃.1, h₃.2.fo⟩
    | cont => exact h₃.2.res ⟨h₃.1, h₃.2.fo⟩
    | brk =>
      obtain ⟨ρ', ω', hb, S₃⟩ := h₃
      exact S₃.res ⟨ρ', ω', hb, drop (hBk _ _ hb) S₃.fo hw (SubB.refl _ _)⟩
    | ret v =>
      obtain ⟨d', ω', hb, rv', S₃⟩ := h₃
      exact S₃.res ⟨d', ω', hb, rv'.mono (hid_eqv fun b hb => List.mem_append_right _ hb), drop (hRt _ _ hb) S₃.fo hw (SubB.refl _ _)⟩
  · rcases r.prop with ⟨p, F⟩ | ⟨ρ', ω', hb, F⟩
    · exact hQ s' p (toSt _ (hW _) r F)
    · exact hQb ρ' ω' s' hb (toSt _ (hBk _ _ hb) r F)
  · obtain ⟨d', ω', hb, rv', F⟩ := r.prop
    exact hQr d' ω' v s' hb rv' (toSt _ (hRt _ _ hb) r F)
/-- x._headers, as a plain list of the base -/
theorem Ev.headersL {K : Frag} {pos : Pos} (X : K.In B₀) (C : ClsK K) {x l : Addr} {ds : List D} (H : HdrAt K B₀ x l) (r : Rp B₀ (.ref l) (.lst ds)) (hb : ∀ b ∈ MU, B₀.get? b = none) {e : Expr} (he : Ev prog w B₀ A env MU ρ e (.raw (.ref x)))
    (ha : eval (.Attribute e "_headers" pos) env = (do
      let o ← eval e env
      standAt pos.atName
      let r ← holding [o] (getAttr o "_headers" true)
      letTemporaryGo e o r
      pure r) := by with_unfolding_all rfl) : Ev prog w B₀ A env MU ρ (.Attribute e "_headers" pos) (.lst ds) := fun s E F =>
  wpAny_mono (Ev.headers X C H he ha s E F) (fun v s' ⟨rv, K'⟩ => by
    (first | obtain ⟨_, rfl⟩ := rp_int rv | obtain ⟨_, rfl⟩ := rp_str rv | obtain rfl := rp_raw rv | obtain rfl := rps_nil rv | cases rv)
    exact ⟨r.mono fun b o e => hid_of (fun q => by rw [hb b q] at e; cases e) ((F.keeps K').g _ _ e), K'⟩) fun _ _ x => x
end
end Mine
end
end
section
set_option Elab.async false
noncomputable section
open PySem PySem.W PySem.Calls PyProof.Rows
set_option maxRecDepth 100000
set_option linter.unusedVariables false
set_option maxHeartbeats 1000000
namespace Mine
noncomputable def fdGet : FuncData := fdMeth 189 "get" (.ref 183)
noncomputable def pairD (p : Str × Str) : D := .tup [.str p.1, .str p.2]
noncomputable def getP (items : List (Str × Str)) (nm : Str) : Option Str := (items.find? fun p => Txt.lower p.1 == nm).map (·.2)
noncomputable def optD : Option Str → D
  | some v => .str v
  | none => .none
theorem get_fn : FnOk fdGet (bodyOf (methStmt "get")) ["self", "name", "default"] :=
  ⟨rfl, rfl, rfl, rfl, rfl, rfl, by decide +kernel, by decide +kernel, by decide +kernel⟩
theorem lower_clean_len (x : Str) (h : x.length ≤ 100) : True := trivial
section
variable {prog : Program} {w : World} {B₀ : Heap} {A : Around} {env : Env} {MU md : List Addr} {ρ : List (Str × D)} {ω : List (Addr × List D)} {s₀ s s' : Shared} {E : Value → Shared → Prop}
theorem Ev.cBool {b : Bool} {k : Nat} {pos : Pos} : Ev prog w B₀ A env MU ρ (.Constant (.bool b) k pos) (.bool b) := fun s E F => fun _ _ _ => ⟨.bool b, Kp.refl s⟩
/-- a target takes an item, in a body's state -/
theorem St.asT {tgt : Expr} {d : D} {bs : List (Str × D)} {ms : List Addr} {v : Value} {Q : Unit → Shared → Prop} (S : St B₀ s₀ md env MU ρ ω s) (hT : AsT prog w B₀ env tgt d bs ms) (hm : ∀ b ∈ ms, b = env.locals ∨ ∃ n, env.kindOf n = some .cell ∧ env.cells.lookup n = some b) (hh : A.handled = none) (r : Rp (Hid MU s.heap) v d)
    (h : ∀ s', St B₀ s₀ md env MU (bs ++ ρ) ω s' → Q () s') : wpAny (model prog w) A (PySem.assign tgt env v) Q E s := by
  refine hT A MU ρ s E v Q S.f r hh fun h' tk F' sb hmu => h _ (S.of (ws := ms) (s' := { s with heap := h', toks := tk }) ⟨F', fun p hp => ?_, S.fo.d⟩ ⟨_, _, rfl, sb⟩ (fun z hz => ?_) S.fw)
  · obtain ⟨c, sd⟩ := S.fo.o p hp
    refine ⟨c.subB sb (fun q => ?_) hmu, sd⟩
    rcases hm _ q with e | ⟨n, _, e⟩
    · exact sd.loc e
    · exact sd.cel n _ e rfl
  · rcases hm _ hz with e | ⟨n, k, e⟩
    · rw [e]; exact S.fl
    · exact S.fc n _ k e
end
section
variable {w : World} {B₀ : Heap} {mg mb : Str → Option Value} {A : Around}
theorem get_ok {K : Frag} (X : K.In B₀) (C : ClsK K) (B : Base B₀ mg mb) (HF : HdF B₀ mg mb) (G : FnAtB B₀ 190 fdGet) (D : ∃ oc od n sl, B₀.get? 183 = some ⟨oc, od, .seq #[.none] n, sl⟩) {x0 l : Addr} (H : HdrAt K B₀ x0 l) {items : List (Str × Str)} (r : Rp B₀ (.ref l) (.lst (items.map pairD))) (hn : items.length ≤ 100000) (hit : ∀ p ∈ items, p.1.length ≤ 1000)
    {x : Str} {t : Tok} (hx : x.length ≤ 1000) (hc : Clean (Txt.lower x)) (hl : (Txt.lower x).cps.size ≤ 100000) (hh : A.handled = none) (hd : A.depth + 30 < recursionLimit) {s : Shared} {E : Value → Shared → Prop} (g : Sub B₀ s.heap) :
    wpAny (model theProg w) A (call (.ref 190) [.ref x0, .str x t]) (fun v s' => Rp (Hid [] s'.heap) v (optD (getP items (Txt.lower x))) ∧ Kp s s') E s := by
  obtain ⟨oc, od, sl, eo⟩ := G.obj
  obtain ⟨tc, td, tn, ts, et⟩ := D
  refine call_gen (mu := []) (ds := [.raw (.ref x0), .str x, .none]) (ρc := []) B get_fn (g _ _ eo) (code_keeps g G.code) (by omega) g (fun _ h => (nomatch h)) (fun n c e => by cases e) (fun n n' c e => by cases e) (fun y d e => by cases e)
    (fun A' E' Q' k => (BindsTo.of_defaults (binds := [("self" : Str), "name", "default"].zip [.ref x0, .str x t, .none]) rfl (g _ _ et) rfl rfl rfl : BindsTo s fdGet ⟨[.ref x0, .str x t], []⟩ _) _ _ _ _ (k _ s (Kp.refl s) (.cons (.raw _) (.cons (.str _ _) (.cons .none .nil))) rfl)) fun L s₁ nL K F E => ?_
  have nLB : B₀.get? L = none := by cases q : B₀.get? L with | none => rfl | some o => rw [g _ _ q] at nL; cases nL
  have S : St B₀ s [] (callEnv fdGet L 190) ([L] ++ []) _ [] s₁ := ⟨⟨F, fun _ h => (nomatch h), List.Pairwise.nil⟩, K.kb, .inr nL, (fun n c _ e => by cases e), fun _ h => (nomatch h)⟩
  have hA : (A.deeper (callEnv fdGet L 190)).handled = none := hh
  have hD : (A.deeper (callEnv fdGet L 190)).depth + 20 < recursionLimit := by show A.depth + 1 + 20 < _; omega
  show wpAny _ _ (execs (_ :: _) _) _ _ _
  refine x_next ?_
  refine s_assign (d := .str (Txt.lower x)) S (Ev.conv X C B HF H (b := true) hc hl hA hD (Ev.name rfl) (Ev.lower (Ev.name rfl) (by omega)) Ev.cBool) (.inl ⟨rfl, rfl⟩) fun s₂ S₂ => ⟨rfl, ?_⟩
  generalize hlow : Txt.lower x = nm at *
  refine wpAny_execs_cons (s_forP (ds := items.map pairD) (fun i => (items.take i).find? (fun p => Txt.lower p.1 == nm) = none) (fun i => [("name", .str nm), ("self", .raw (.ref x0)), ("default", .none)]) (fun i => []) (fun _ _ => False) (fun d ω' => d = optD (getP items nm) ∧ ω' = []) S₂
    (It.list hA (Ev.headersL X C H r (fun b hb => by simp at hb; subst hb; exact nLB) (Ev.name rfl)) (sz (by simp; omega))) (lk_cons (lk_one rfl (lk_one rfl lk_nil))) rfl rfl (fun i => rfl) (fun _ _ h => h.elim) (fun d ω' h => by rw [h.2]) (fun i d MU s₀ md s₃ E v ed hP hM S₃ rv => ?_) (fun s₃ hP S₃ => ?_) (fun _ _ _ h => h.elim) (fun d ω' v s₃ h rv S₃ => ?_))
  · rw [List.getElem?_map] at ed
    cases ew : items[i]? with
    | none => rw [ew] at ed; cases ed
    | some p =>
      rw [ew] at ed
      cases ed
      have hp := hit p (List.mem_of_getElem? ew)
      refine S₃.asT (AsT.pair (.inl ⟨rfl, rfl⟩) (.inl ⟨rfl, rfl⟩)) (by simp) hA rv fun s₄ S₄ => ?_
      refine wpAny_execs_cons (s_if S₄ (Ts.eqS (x := Txt.lower p.1) (y := nm) (Ev.lower (Ev.name rfl) (by omega)) (Ev.name rfl)) fun s₅ S₅ => ?_)
      cases q : Txt.lower p.1 == nm with
      | true =>
        show wpAny _ _ (execs (_ :: _) _) _ _ _
        refine wpAny_execs_cons (s_return (d := .str p.2) S₅ (Ev.name rfl) fun v s₆ rv S₆ => ⟨_, _, ⟨?_, rfl⟩, rv, S₆.weak lk_nil⟩)
        have e : items.find? (fun p => Txt.lower p.1 == nm) = some p := by
          have sp : items = items.take i ++ (p :: items.drop (i + 1)) := by
            obtain ⟨hi, e⟩ := List.getElem?_eq_some_iff.mp ew
            rw [← e, ← List.drop_eq_getElem_cons hi, List.take_append_drop]
          rw [sp, List.find?_append, hP, List.find?_cons, q]; rfl
        unfold getP
        rw [e]; rfl
      | false =>
        refine wpAny_execs_nil (wpAny_execs_nil ⟨?_, S₅.weak (lk_skip rfl (lk_skip rfl (lk_refl _)))⟩)
        rw [List.take_add_one, ew, List.find?_append, hP]
        simp [q]
  · rw [List.length_map, List.take_length] at hP
    refine wpAny_execs_cons (s_return (d := .none) S₃ (Ev.name rfl) fun v s₄ rv S₄ => ?_)
    have e : getP items nm = none := by unfold getP; rw [hP]; rfl
    rw [e]
    exact S₄.done rv
  · rw [h.1] at rv
    exact S₃.done rv
end
end Mine
end
end
section
set_option Elab.async false
noncomputable section
open PySem PySem.W PySem.Calls PyProof.Rows
set_option maxRecDepth 100000
set_option linter.unusedVariables false
set_option maxHeartbeats 1000000
namespace Mine
noncomputable def fdItems : FuncData := fdMeth 206 "items" .none
theorem items_fn : FnOk fdItems (bodyOf (methStmt "items")) ["self"] :=
  ⟨rfl, rfl, rfl, rfl, rfl, rfl, by decide +kernel, by decide +kernel, by decide +kernel⟩
section
variable {w : World} {B₀ : Heap} {mg mb : Str → Option Value} {A : Around} {mu : List Addr}
theorem items_ok {K : Frag} (X : K.In B₀) (C : ClsK K) (B : Base B₀ mg mb) (G : FnAtB B₀ 207 fdItems) {x0 l : Addr} (H : HdrAt K B₀ x0 l) {items : List (Str × Str)} (r : Rp B₀ (.ref l) (.lst (items.map pairD))) (hn : items.length ≤ 100000)
    (hh : A.handled = none) (hd : A.depth + 30 < recursionLimit) {s : Shared} {E : Value → Shared → Prop} (g : Sub B₀ s.heap) (low : Low mu s.heap) (hb : ∀ b ∈ mu, B₀.get? b = none) :
    wpAny (model theProg w) A (call (.ref 207) [.ref x0]) (fun v s' => Rp (Hid mu s'.heap) v (.lst (items.map pairD)) ∧ Kp s s') E s := by
  obtain ⟨oc, od, sl, eo⟩ := G.obj
  refine call_gen (ds := [.raw (.ref x0)]) (ρc := []) B items_fn (g _ _ eo) (code_keeps g G.code) (by omega) g low (fun n c e => by cases e) (fun n n' c e => by cases e) (fun y d e => by cases e)
    (fun A' E' Q' k => wpAny_of_eq (show bindArgs fdItems ⟨[.ref x0], []⟩ = pure ([("self" : Str)].zip [.ref x0]) from rfl) (k _ s (Kp.refl s) (.cons (.raw _) .nil) rfl)) fun L s₁ nL K F E => ?_
  have nLB : B₀.get? L = none := by cases q : B₀.get? L with | none => rfl | some o => rw [g _ _ q] at nL; cases nL
  have S : St B₀ s [] (callEnv fdItems L 207) ([L] ++ mu) _ [] s₁ := ⟨⟨F, fun _ h => (nomatch h), List.Pairwise.nil⟩, K.kb, .inr nL, (fun n c _ e => by cases e), fun _ h => (nomatch h)⟩
  show wpAny _ _ (execs (_ :: _) _) _ _ _
  refine wpAny_execs_cons (s_return S (Ev.lcut (Ev.headersL X C H r (fun b hm => ?_) (Ev.name rfl)) .none .none (sz (by simp; omega)) cut_all) fun v s₂ rv S₂ => S₂.done rv)
  rcases List.mem_cons.mp hm with q | hm
  · exact q ▸ nLB
  · exact hb b hm
end
end Mine
end
end
section
set_option Elab.async false
noncomputable section
open PySem PySem.W PySem.Calls PyProof.Rows
set_option maxRecDepth 100000
set_option linter.unusedVariables false
set_option maxHeartbeats 1000000
namespace Mine
noncomputable def fdAdd : FuncData := fdMeth 239 "add_header" .none
theorem add_fn : FnOk fdAdd (bodyOf (methStmt "add_header")) ["self", "_name", "_value", "_params"] :=
  ⟨rfl, rfl, rfl, rfl, rfl, rfl, by decide +kernel, by decide +kernel, by decide +kernel⟩
theorem add_bind (a b c : Value) : bindArgs fdAdd ⟨[a, b, c], []⟩ = (do let d ← alloc { cls := .type "dict", data := .dict #[] }; pure ([("self" : Str), "_name", "_value", "_params"].zip [a, b, c, .ref d])) := by rfl
section
variable {prog : Program} {w : World} {B₀ : Heap} {A : Around} {env : Env} {MU : List Addr} {ρ : List (Str × D)} {pos : Pos}
theorem Ts.notNone {l r : Expr} {x : Str} (hl : Ev prog w B₀ A env MU ρ l (.str x)) (hr : Ev prog w B₀ A env MU ρ r .none) (hm : behindInMarks .IsNot r = false := by with_unfolding_all rfl) : Ts prog w B₀ A env MU ρ (.Compare l [.IsNot] [r] pos) true :=
  Ts.cmp hl hr (fun va vb s E ra rb => by (first | obtain ⟨_, rfl⟩ := rp_int ra | obtain ⟨_, rfl⟩ := rp_str ra | obtain rfl := rp_raw ra | obtain rfl := rps_nil ra | cases ra); (first | obtain ⟨_, rfl⟩ := rp_int rb | obtain ⟨_, rfl⟩ := rp_str rb | obtain rfl := rp_raw rb | obtain rfl := rps_nil rb | cases rb); exact wpAny_isNot_other rfl (by intro h; cases h) ⟨rfl, Kp.refl s⟩) hm
end
end Mine
end
end
section
set_option Elab.async false
noncomputable section
open PySem PySem.W PySem.Calls PyProof.Rows
set_option maxRecDepth 100000
set_option linter.unusedVariables false
set_option maxHeartbeats 1000000
namespace Mine
section
variable {prog : Program} {w : World} {B₀ : Heap} {A : Around} {env : Env} {MU : List Addr} {ρ : List (Str × D)} {pos : Pos} {s : Shared} {E : Value → Shared → Prop}
theorem entry_itemiter : entryFor table "dict_itemiterator.__iter__" = some Builtin.«dict_keyiterator.__iter__» :=
  entryFor_alias (id' := "dict_keyiterator.__iter__") (by kernel_rfl) rfl (by decide +kernel) (by kernel_rfl)
theorem pyIter_itemiter {it : Addr} {o : Obj} {Q : Value → Shared → Prop} (hit : s.heap.get? it = some o) (hc : o.cls = .type "dict_itemiterator") (h : Q (.ref it) s) : wpAny (model prog w) A (pyIter (.ref it)) Q E s := by
  have hT : s.TypeIs (.ref it) "dict_itemiterator" := ⟨o, hit, hc⟩
  refine wpAny_pyIter_slot hT PySem.F.slot_dict_itemiterator_iter (wpAny_call_entry PySem.F.slot_dict_itemiterator_iter hT entry_itemiter ?_ (PySem.F.args_dict_itemiterator_iter_1 _))
  show wpAny _ _ (ret (.ref it)) _ _ s
  exact wpAny_pure ⟨_, rfl, "dict_itemiterator", _, hT, PySem.F.slot_dict_itemiterator_next.lookup, h⟩
theorem nod_at (h : Heap) (d : Addr) (e : h.get? d = some { cls := .type "dict", data := .dict #[] }) : h.DictAt (PySem.strKind prog w) d [] 0 :=
  ⟨_, #[], e, ⟨rfl, rfl, rfl⟩, rfl, fun _ he => by simp at he, Pairs.nil, List.nodup_nil⟩
theorem owned_none {I : Addr} {c : String} {vs : List Value} {Q : Unit → Shared → Prop} (tgt : Expr) (v : Value) (ho : s.heap.get? I = some { cls := .type c, dict := none, data := .fields (.none :: vs).toArray, slots := #[] }) (h : Q () s) :
    wpAny (model prog w) A (letOwnedTupleGo tgt (.ref I) v) Q E s := by
  have go : wpAny (model prog w) A (do
    let (.ref r, .ref a) := ((Value.ref I, v) : Value × Value) | return
    let o ← load r
    match o.cls, o.data with
    | .type n, .fields vs =>
      if ["enumerate", "zip", "dict_itemiterator", "dict_reverseitemiterator", "odict_iterator", "itertools.zip_longest", "itertools.pairwise"].contains n && vs[0]? == some (rawInt a) then
        rule "for.unpacks-the-owned-tuple"
        updateField r 0 .none
    | _, _ => pure ()) Q E s := by
    cases v with
    | ref a =>
      refine wpAny_bind (wpAny_load ho ?_)
      have e : ((.none :: vs : List Value).toArray[0]? == some (rawInt a)) = false := by simp [rawInt]
      show wpAny _ _ (if (_ && ((.none :: vs : List Value).toArray[0]? == some (rawInt a))) = true then _ else _) _ _ _
      rw [e, Bool.and_false]
      exact wpAny_pure h
    | _ => exact wpAny_pure h
  unfold letOwnedTupleGo
  split
  · exact go
  · exact go
  · exact wpAny_pure h
theorem It.items0 (hh : A.handled = none) {o : Expr} {apos : Pos} (ho : Ev prog w B₀ A env MU ρ o .nod) (hbase : attributeBase o "items" env (eval o env) = eval o env := by rfl) (hline : (apos.endLine == pos.line) = true := by rfl) :
    It prog w B₀ A env MU ρ (.Call (.Attribute o "items" apos) [] [] pos) [] := fun s E F => by
  refine wpAny_Call_method (T := "dict") (id := "dict.items") hbase rfl hline PySem.F.plainAttrs_dict PySem.F.slot_dict_items PySem.F.type_dict_items (wpAny_mono (ho s E F) (fun v s₁ ⟨rv, K⟩ => ?_) fun _ _ x => x)
  cases rv with
  | @nod d nd ed =>
    have ed' := (hid_get ed).2
    have hm : s₁.heap.DictOf (PySem.strKind prog w) d [] := ⟨_, #[], 0, ed', ⟨rfl, rfl, rfl⟩, rfl, fun _ he => by simp at he, Pairs.nil, List.nodup_nil⟩
    refine ⟨hm.typeIs, hm.mapOf.noDict, ?_⟩
    show wpAny _ _ (callWith pos (.builtin "dict.items") [.ref d] [] []) _ E s₁
    refine method_meetsIn PySem.F.slot_dict_items PySem.F.entry_dict_items rfl (PySem.evalArgs_none ⟨rfl, hm.typeIs, PySem.F.args_dict_items_1 _, _, meets_dict_items (PySem.strKind prog w) d nd, ⟨[], hm⟩, ?_⟩)
    have ed2 : (s₁.heap.push { cls := .type "dict_items", data := .fields #[.ref d] }).get? d = some { cls := .type "dict", data := .dict #[] } := Heap.get?_push_of_some _ ed'
    refine wpAny_pyIter_items (knd := PySem.strKind prog w) (kvs := []) (ep := 0) ⟨_, Heap.get?_push_size _ rfl, rfl, rfl⟩ (nod_at _ _ ed2) ?_
    have F₁ := F.keeps K
    let s₂ : Shared := { s₁ with heap := s₁.heap.push { cls := .type "dict_items", data := .fields #[.ref d] } }
    have K₂ : Kp s s₂ := K.trans (Kp.push s₁ _)
    have F₂ := F.keeps K₂
    have hne : d ≠ s₂.heap.objs.size := Nat.ne_of_lt (Heap.lt_size ed2)
    refine ⟨s₂.heap.objs.size, [s₂.heap.objs.size, d], [s₂.heap.objs.size], fun _ _ => False, fun _ h => IsItemIter h s₂.heap.objs.size d 0 0 0 .none .none ∧ h.get? d = some { cls := .type "dict", data := .dict #[] }, rfl, ⟨fun b hb => by simp at hb; simp [hb], fun i h h' st k => ⟨k _ (.head _) _ st.1, k _ (.tail _ (.head _)) _ st.2⟩, fun i s Q E hi => absurd hi (Nat.not_lt_zero _),
      fun s Q E st hQ => wpAny_pyNext_items_end (knd := PySem.strKind prog w) (kvs := []) hh st.1 (nod_at _ _ st.2) rfl fun h' he' => hQ h' s.toks fun b o hb e => he' b o (fun q => hb (by simp [q])) e, fun i s Q E st hQ => pyIter_itemiter st.1 rfl hQ⟩, ⟨Heap.get?_push_size _ rfl, Heap.get?_push_of_some _ ed2⟩, fun b hb => ?_, fun b hb => ?_, fun i v hi => absurd hi (Nat.not_lt_zero _), K₂.trans (Kp.push s₂ _), fun i s' Q E tgt v st h => ?_, Nat.zero_le _, fun i h st b hb => ?_⟩
    · rcases List.mem_cons.mp hb with rfl | hb
      · exact ⟨Low.fresh F₂.low, _, Heap.get?_push_size _ rfl⟩
      · rw [List.mem_singleton] at hb; subst hb
        exact ⟨(hid_get ed).1, _, Heap.get?_push_of_some _ ed2⟩
    · rw [List.mem_singleton] at hb; subst hb
      exact fresh_at K₂ (Nat.le_refl _)
    · exact owned_none tgt v st.1 h
    · rcases List.mem_cons.mp hb with rfl | hb
      · exact ⟨_, st.1⟩
      · rw [List.mem_singleton] at hb; subst hb; exact ⟨_, st.2⟩
end
end Mine
end
end
section
set_option Elab.async false
noncomputable section
open PySem PySem.W PySem.Calls PyProof.Rows
set_option maxRecDepth 100000
set_option linter.unusedVariables false
set_option maxHeartbeats 1000000
namespace Mine
theorem join_one (sep x : Str) : Txt.join sep [x] = x := by
  show Builtin.Str.glued sep [x] = x
  rw [StrLaws.glued_eq_join]; rfl
section
variable {w : World} {B₀ : Heap} {mg mb : Str → Option Value} {A : Around} {mu : List Addr}
theorem add_k {s : Shared} (low : Low mu s.heap) (big : sysModules < s.heap.objs.size) {x0 : Addr} {nm val : Str} {t u : Tok} {Q' : List (Str × Value) → Shared → Prop}
    (k : ∀ us s₂, Kp s s₂ → Rps (Hid mu s₂.heap) us [.raw (.ref x0), .str nm, .str val, .nod] → us.length = [("self" : Str), "_name", "_value", "_params"].length → Q' ([("self" : Str), "_name", "_value", "_params"].zip us) s₂) :
    Q' ([("self" : Str), "_name", "_value", "_params"].zip [.ref x0, .str nm t, .str val u, .ref s.heap.objs.size]) { s with heap := s.heap.push { cls := .type "dict", data := .dict #[] } } :=
  k [.ref x0, .str nm t, .str val u, .ref s.heap.objs.size] _ (Kp.push s _) (.cons (.raw _) (.cons (.str _ _) (.cons (.str _ _) (.cons (.nod (beq_eq_false_iff_ne.mpr (Nat.ne_of_gt big)) (hid_of (Low.fresh low) (Heap.get?_push_size _ rfl))) .nil)))) rfl
theorem add_ok {K : Frag} (X : K.In B₀) (C : ClsK K) (B : Base B₀ mg mb) (HF : HdF B₀ mg mb) (G : FnAtB B₀ 240 fdAdd) {x0 l : Addr} (H : HdrAt K B₀ x0 l) {ds : List D} (hn : ds.length ≤ 100000) {nm val : Str} {t u : Tok} (c1 : Clean nm) (c2 : Clean val) (l1 : nm.length ≤ 1000) (l2 : val.length ≤ 1000)
    (hh : A.handled = none) (hd : A.depth + 30 < recursionLimit) {s : Shared} {E : Value → Shared → Prop} (g : Sub B₀ s.heap) (low : Low mu s.heap) (hl : l ∈ mu) (hlB : B₀.get? l = none) (ac : Acc l mu ds s.heap) :
    wpAny (model theProg w) A (call (.ref 240) [.ref x0, .str nm t, .str val u]) (fun v s' => v = .none ∧ KB [l] s s' ∧ Acc l mu (ds ++ [.tup [.str nm, .str val]]) s'.heap) E s := by
  obtain ⟨oc, od, sl, eo⟩ := G.obj
  have big : sysModules < s.heap.objs.size := modules_low (B.nolimit.keeps g)
  refine call_gen (ds := [.raw (.ref x0), .str nm, .str val, .nod]) (ρc := []) B add_fn (g _ _ eo) (code_keeps g G.code) (by omega) g low (fun n c e => by cases e) (fun n n' c e => by cases e) (fun y d e => by cases e)
    (fun A' E' Q' k => by rw [add_bind]; refine wpAny_bind (wpAny_alloc (wpAny_pure ?_)); exact add_k low big k) fun L s₁ nL K₁ F E => ?_
  have nLB : B₀.get? L = none := by cases q : B₀.get? L with | none => rfl | some o => rw [g _ _ q] at nL; cases nL
  have lL : l ≠ L := fun q => by obtain ⟨vs, ⟨n, e⟩, _⟩ := ac; rw [q, nL] at e; cases e
  have F0 := F
  have ac1 : Acc l ([L] ++ mu) ds s₁.heap := acc_hide ac K₁ fun b hb => by rw [List.mem_singleton] at hb; subst hb; exact nL
  have S : St B₀ s [l] (callEnv fdAdd L 240) ([L] ++ mu) _ [(l, ds)] s₁ := ⟨⟨F, fun p hp => by rw [List.mem_singleton] at hp; subst hp; exact ⟨ac1, ⟨.tail _ hl, hlB, lL, fun n c e => by cases e⟩⟩, List.pairwise_singleton _ _⟩, K₁.kb, .inr nL, (fun n c _ e => by cases e), fun p hp => by rw [List.mem_singleton] at hp; subst hp; exact .inl (.head _)⟩
  have hA : (A.deeper (callEnv fdAdd L 240)).handled = none := hh
  have hD : (A.deeper (callEnv fdAdd L 240)).depth + 20 < recursionLimit := by show A.depth + 1 + 20 < _; omega
  show wpAny _ _ (execs (_ :: _) _) _ _ _
  refine x_next ?_
  refine s_new S (EvN.list .nil (sz (by simp))) (.inl ⟨rfl, rfl⟩) fun p s₂ hp S₂ => ⟨rfl, ?_⟩
  refine x_next ?_
  refine s_if S₂ (Ts.notNone (Ev.name rfl) Ev.cNone) fun s₃ S₃ => ?_
  show wpAny _ _ (execs (_ :: _) _) _ _ _
  refine x_next ?_
  refine s_assign (d := .str val) S₃ (Ev.conv X C B HF H (b := false) c2 (by show val.length ≤ _; omega) hA hD (Ev.name rfl) (Ev.name rfl) Ev.cBool) (.inl ⟨rfl, rfl⟩) fun s₄ S₄ => ⟨rfl, ?_⟩
  refine x_next ?_
  refine s_append (ω₁ := []) (d := .str val) S₄ (Ev.name rfl) (Ev.name rfl) (sz (by simp)) fun s₅ S₅ => ⟨rfl, ?_⟩
  refine wpAny_execs_nil ⟨rfl, ?_⟩
  refine x_next ?_
  refine s_for0 (ds := []) (fun i => _) (fun i => _) S₅ (It.items0 hA (Ev.name rfl)) (lk_refl _) rfl (fun i => rfl) (fun i d MU s₀ md s₆ E v ed => by cases ed) fun s₆ S₆ => ⟨rfl, ?_⟩
  have S₇ := S₆.freeze (x := "parts") hp rfl
  refine x_next ?_
  refine s_append (ω₁ := []) (d := .tup [.str nm, .str val]) S₇ (Ev.headers X C H (Ev.name rfl)) (Ev.tuple (.cons (Ev.conv X C B HF H (b := true) c1 (by show nm.length ≤ _; omega) hA hD (Ev.name rfl) (Ev.name rfl) Ev.cBool) rfl (.cons (Ev.cast (Ev.join (ys := [val]) Ev.cStr (Ev.name rfl) (by simp; have : (Str.ofString "; ").length = 2 := rfl; omega)) (by rw [join_one])) rfl .nil)) (sz (by simp))) (sz hn) fun s₈ S₈ => ⟨rfl, ?_⟩
  refine wpAny_execs_nil ⟨rfl, S₈.k, ?_⟩
  obtain ⟨c, _⟩ := S₈.fo.o _ (.head _)
  exact c.eqv fun b hb => .tail _ hb
end
end Mine
end
end
section
set_option Elab.async false
noncomputable section
open PySem PySem.W PySem.Calls PyProof.Rows
set_option maxRecDepth 100000
set_option linter.unusedVariables false
set_option maxHeartbeats 1000000
namespace Mine
section
variable {prog : Program} {w : World} {A : Around} {s : Shared} {E : Value → Shared → Prop} {K : Frag} {C x : Addr} {R : Result → Shared → Prop}
/-- an attribute set in the object's own dict -/
theorem osa_here {ox od od' : Obj} {dx : Addr} {name : Str} {tk : Tok} {v : Value} {es : List DictEntry} {n : Nat} (X : K.In s.heap) (D : s.heap.get? dx = some od)
    (I : W.InstAt s.heap x ox C (some od)) (hd : ox.dict = some dx) (hp : plainOver K C = true) (ht : takerIn K C name = some none) (hh : (clsIn K C).any (·.hasDict) = true)
    (hl : (lookIn name od).isSome = true) (e : Obj.putName name (PyData.keyHash w.params name) (.str name s.toks) v od = od') (e' : od'.data = .dict es.toArray n) (hz : es.length ≤ 1000)
    (h : R (.ok (.ret .none)) { s with heap := s.heap.update dx (Obj.putName name (PyData.keyHash w.params name) (.str name s.toks) v), toks := s.toks + 1 }) :
    codeAny (model prog w) A (.call (.builtin "object.__setattr__") ⟨[.ref x, .str name tk, v], []⟩) R s := by
  refine osa_open X I hp ht fun b => ?_
  obtain ⟨cd, hc, hd'⟩ := any_some hh
  have D' : (s.heap.update dx (Obj.putName name (PyData.keyHash w.params name) (.str name s.toks) v)).get? dx = some od' := by
    rw [Heap.get?_update_self _ D (by rw [e]; obtain ⟨_, _, dd, _⟩ := od'; cases e'; rfl), e]
  obtain ⟨hx, hcl, hn, -⟩ := I
  obtain ⟨oc, odi, oda, osl⟩ := ox
  dsimp only at hcl hd
  subst hcl hd
  refine wpAny_bind (wpAny_pure (wpAny_bind (wpAny_bind (wpAny_loadPart hx (wpAny_bind ((looks_clsIn X hc).here ?_))))))
  rw [hd']
  refine wpAny_pure (a := some dx) (wpAny_bind (wpAny_pure (wpAny_bind ?_)))
  unfold nsSet
  refine wpAny_bind (wpAny_bind (wpAny_askSetting (wpAny_pure (wpAny_bind (wpAny_mkText (wpAny_bind (wpAny_loadPart D ?_)))))))
  unfold lookIn at hl
  split at hl
  · rename_i es₀ n₀ q
    rw [q]
    dsimp only
    have c : (!es₀.any (·.key.isStr name) && es₀.any (·.refKey)) = false := by
      rw [← Array.any_toList, ← Array.any_toList]
      split at hl
      · rename_i en he
        rw [List.any_eq_true.mpr ⟨en, List.mem_of_find?_eq_some he, List.find?_some he⟩]; rfl
      · split at hl
        · cases hl
        · rename_i z; rw [Bool.not_eq_true] at z; rw [z, Bool.and_false]
    rw [aRefKeyMayBeTheName_at, c]
    refine wpAny_updatePart D ?_
    refine wpAny_bind (wpAny_lookBehind D' (by rw [e']; exact pastItsLine_dict (by rw [List.size_toArray, sizeLine_eq]; omega)) ?_)
    exact wpAny_pure h
  · cases hl
end
end Mine
end
end
section
set_option Elab.async false
noncomputable section
open PySem PySem.W PySem.Calls PyProof.Rows
set_option maxRecDepth 100000
set_option linter.unusedVariables false
set_option maxHeartbeats 1000000
namespace Mine
section
variable {prog : Program} {w : World} {B₀ : Heap} {A : Around} {env : Env} {MU mu md : List Addr} {ρ : List (Str × D)} {ω : List (Addr × List D)} {s₀ s s' : Shared} {E : Value → Shared → Prop} {mg mb : Str → Option Value} {pos : Pos}
theorem Kp.none {a b : Shared} {c : Addr} (K : Kp a b) (h : b.heap.get? c = none) : a.heap.get? c = none := by
  cases q : a.heap.get? c with
  | none => rfl
  | some o => rw [K.sub _ _ q] at h; cases h
theorem EvN.iteF {t p q : Expr} {ds : List D} (ht : Ts prog w B₀ A env MU ρ t false) (hq : EvN prog w B₀ A env MU ρ q ds) : EvN prog w B₀ A env MU ρ (.IfExp t p q pos) ds := fun s E F =>
  IfExp_ (wpAny_mono (ht s E F) (fun b s' ⟨e, K⟩ => by
    subst e
    exact wpAny_mono (hq s' E (F.keeps K)) (fun v s'' ⟨a, e, ha, c, K'⟩ => ⟨a, e, K.none ha, c, K.trans K'⟩) fun _ _ x => x) fun _ _ x => x)
theorem Ts.isNotV {l r : Expr} {a b : Value} (hl : Ev prog w B₀ A env MU ρ l (.raw a)) (hr : Ev prog w B₀ A env MU ρ r (.raw b)) (hp : plainIs a b = true) (hm : behindInMarks .IsNot r = false := by with_unfolding_all rfl) : Ts prog w B₀ A env MU ρ (.Compare l [.IsNot] [r] pos) (!(a == b)) :=
  Ts.cmp hl hr (fun va vb s E ra rb => by (first | obtain ⟨_, rfl⟩ := rp_int ra | obtain ⟨_, rfl⟩ := rp_str ra | obtain rfl := rp_raw ra | obtain rfl := rps_nil ra | cases ra); (first | obtain ⟨_, rfl⟩ := rp_int rb | obtain ⟨_, rfl⟩ := rp_str rb | obtain rfl := rp_raw rb | obtain rfl := rps_nil rb | cases rb); exact wpAny_isNot_plain hp ⟨rfl, Kp.refl s⟩) hm
theorem Ts.noneNot {l r : Expr} (hl : Ev prog w B₀ A env MU ρ l .none) (hr : Ev prog w B₀ A env MU ρ r .none) (hm : behindInMarks .IsNot r = false := by with_unfolding_all rfl) : Ts prog w B₀ A env MU ρ (.Compare l [.IsNot] [r] pos) false :=
  Ts.cmp hl hr (fun va vb s E ra rb => by (first | obtain ⟨_, rfl⟩ := rp_int ra | obtain ⟨_, rfl⟩ := rp_str ra | obtain rfl := rp_raw ra | obtain rfl := rps_nil ra | cases ra); (first | obtain ⟨_, rfl⟩ := rp_int rb | obtain ⟨_, rfl⟩ := rp_str rb | obtain rfl := rp_raw rb | obtain rfl := rps_nil rb | cases rb); exact wpAny_isNot_self rfl ⟨rfl, Kp.refl s⟩) hm
/-- a list of the base -/
theorem Ev.rawL {e : Expr} {v : Value} {ds : List D} (he : Ev prog w B₀ A env MU ρ e (.raw v)) (r : Rp B₀ v (.lst ds)) (hb : ∀ b ∈ MU, B₀.get? b = none) : Ev prog w B₀ A env MU ρ e (.lst ds) := fun s E F =>
  wpAny_mono (he s E F) (fun v s' ⟨rv, K'⟩ => by
    (first | obtain ⟨_, rfl⟩ := rp_int rv | obtain ⟨_, rfl⟩ := rp_str rv | obtain rfl := rp_raw rv | obtain rfl := rps_nil rv | cases rv)
    exact ⟨r.mono fun b o e => hid_of (fun q => by rw [hb b q] at e; cases e) ((F.keeps K').g _ _ e), K'⟩) fun _ _ x => x
theorem Ev.typeL (B : Base B₀ mg mb) {e : Expr} {ds : List D} {np : Pos} (hg : Glb mg mb "type" (.type "type")) (he : Ev prog w B₀ A env MU ρ e (.lst ds)) (hs : starEach [e] env = [(false, eval e env)] := by rfl) (hk : env.kindOf "type" = some .globalImplicit := by rfl) :
    Ev prog w B₀ A env MU ρ (.Call (.Name "type" np) [e] [] pos) (.raw (.type "list")) :=
  Ev.call B hg (CW.type _) (.cons he hs .nil) (fun vs s E r F => by
    replace r := rps_cons r; obtain ⟨_, _, rfl, r1, r2⟩ := r
    (first | obtain ⟨_, rfl⟩ := rp_int r2 | obtain ⟨_, rfl⟩ := rp_str r2 | obtain rfl := rp_raw r2 | obtain rfl := rps_nil r2 | cases r2)
    replace r1 := rp_lst r1; obtain ⟨_, _, rfl, p, q⟩ := r1
    exact call_type_of (plist p).isList.typeIs (by decide +kernel) ⟨.raw _, Kp.refl s⟩) hk
/-- the own list stands for good, its name still raw -/
theorem St.freeze0 {a : Addr} {ys : List D} (S : St B₀ s₀ md env (a :: MU) ρ ((a, ys) :: ω) s) (ha : a ∉ MU) : St B₀ s₀ md env MU ρ ω s ∧ Rp (Hid MU s.heap) (.ref a) (.lst ys) := by
  obtain ⟨⟨vs, p, r⟩, sd⟩ := S.fo.o (a, ys) (.head _)
  have dd := List.pairwise_cons.mp S.fo.d
  have hid : Sub (Hid (a :: MU) s.heap) (Hid MU s.heap) := hid_eqv fun b hb => .tail _ hb
  have tl : ∀ b, b ∈ a :: MU → b ≠ a → b ∈ MU := fun b hb n => (List.mem_cons.mp hb).resolve_left n
  have F := S.f
  refine ⟨⟨⟨⟨F.g, F.k, F.gl, F.bl, fun b hb => F.low b (.tail _ hb), ⟨⟨tl _ F.wf.loc.1 sd.loc.symm, F.wf.loc.2⟩, fun n c e => ⟨tl _ (F.wf.cel n c e).1 (sd.cel n c e), (F.wf.cel n c e).2⟩, F.wf.inj⟩, F.ns, F.cl, fun y d e => ?_⟩, fun p hp => ?_, dd.2⟩, S.k, S.fl, S.fc, fun p hp => S.fw p (.tail _ hp)⟩, ?_⟩
  · obtain ⟨v, hv, rv⟩ := F.var y d e
    exact ⟨v, hv, rv.mono hid⟩
  · obtain ⟨c, sd'⟩ := S.fo.o p (.tail _ hp)
    exact ⟨c.eqv fun b hb => .tail _ hb, ⟨tl _ sd'.mem (dd.1 p hp).symm, sd'.base, sd'.loc, sd'.cel⟩⟩
  · obtain ⟨n, en⟩ := p
    exact .lst ⟨n, hid_of ha en⟩ (r.mono hid)
/-- something beside the frame turns; the names are raw -/
theorem St.turn {c : Addr} (S : St B₀ s₀ md env MU ρ [] s) (K : KB [c] s s') (hc : c ∉ MU) (raw : ∀ x d, ρ.lookup x = some d → ∃ v, d = .raw v) : St (Hid MU s'.heap) s₀ (c :: md) env MU ρ [] s' := by
  have no : ∀ b, b ∈ MU → (Hid MU s'.heap).get? b = none := fun b hb => hideAll_none MU hb
  have F := S.f
  have ne : ∀ b, b ∈ MU → b ∉ [c] := fun b hb q => by rw [List.mem_singleton] at q; exact hc (q ▸ hb)
  have cell : ∀ n a v, env.cells.lookup n = some a → s.heap.IsCell a v → s'.heap.IsCell a v := fun n a v e ⟨o, eo, r⟩ => ⟨o, K.sub a o (ne a (F.wf.cel n a e).1) eo, r⟩
  have ns : ∀ m, s.heap.Ns env.locals m → s'.heap.Ns env.locals m := fun m n => n.at' fun o e => K.sub _ o (ne _ F.wf.loc.1) e
  refine ⟨⟨⟨hid_sub, F.k, F.gl, F.bl, fun b hb => let ⟨o, e⟩ := F.low b hb; ⟨o, K.sub b o (ne b hb) e⟩, ⟨⟨F.wf.loc.1, no _ F.wf.loc.1⟩, fun n c e => ⟨(F.wf.cel n c e).1, no _ (F.wf.cel n c e).1, (F.wf.cel n c e).2.2⟩, F.wf.inj⟩, let ⟨m, n⟩ := F.ns; ⟨m, ns m n⟩, fun n c e => let ⟨v, i⟩ := F.cl n c e; ⟨v, cell n c v e i⟩, fun x d e => ?_⟩, fun _ h => (nomatch h), List.Pairwise.nil⟩, ?_, S.fl.imp (fun h => .tail _ h) id, fun n c k e => (S.fc n c k e).imp (fun h => .tail _ h) id, fun _ h => (nomatch h)⟩
  · obtain ⟨v, p, r⟩ := F.var x d e
    obtain ⟨u, rfl⟩ := raw x d e
    (first | obtain ⟨_, rfl⟩ := rp_int r | obtain ⟨_, rfl⟩ := rp_str r | obtain rfl := rp_raw r | obtain rfl := rps_nil r | cases r)
    refine ⟨_, ?_, .raw _⟩
    unfold VarAt at *
    split at p
    · obtain ⟨m, n, em⟩ := p; exact ⟨m, ns m n, em⟩
    · obtain ⟨c, ec, i⟩ := p; exact ⟨c, ec, cell x c _ ec i⟩
    · obtain ⟨c, ec, i⟩ := p; exact ⟨c, ec, cell x c _ ec i⟩
    · exact p
  · exact (S.k.mono fun b hb => .tail _ hb).trans (K.mono fun b hb => by rw [List.mem_singleton] at hb; subst hb; exact .head _)
end
end Mine
end
end
section
set_option Elab.async false
noncomputable section
open PySem PySem.W PySem.Calls PyProof.Rows
set_option maxRecDepth 100000
set_option linter.unusedVariables false
set_option maxHeartbeats 1000000
namespace Mine
noncomputable def fdInit : FuncData := fdMeth 134 "__init__" (.ref 128)
theorem init_fn : FnOk fdInit (bodyOf (methStmt "__init__")) ["self", "headers"] :=
  ⟨rfl, rfl, rfl, rfl, rfl, rfl, by decide +kernel, by decide +kernel, by decide +kernel⟩
/-- the top's facts of the class, for making and setting -/
structure ClsI (K : Frag) : Prop where
  keep : keepIn K (.ref 243) = true
  makes : makesIn K 243 = true
  mInit : findIn K (.ref 243) "__init__" = some (some (.ref 135))
  tInit : typeIn K (.ref 135) = some (.type "function")
  over : plainOver K 243 = true
  cls : ∃ cd, clsIn K 243 = some cd ∧ cd.hasDict = true
  hdr : findIn K (.ref 243) "_headers" = some none
  sa : findIn K (.ref 243) "__setattr__" = some (some (.builtin "object.__setattr__"))
structure HdI (B₀ : Heap) (mg mb : Str → Option Value) : Prop where
  li : Glb mg mb "list" (.type "list")
  init : FnAtB B₀ 135 fdInit
  dflt : ∃ oc od n sl, B₀.get? 128 = some ⟨oc, od, .seq #[.none] n, sl⟩
noncomputable def hdrDict (h : Int) (t : Tok) (l : Addr) : Obj := { cls := .type "dict", data := .dict #[⟨h, .str "_headers" t, .ref l⟩] 1 }
theorem hdr_find {K : Frag} (C : ClsI K) (h : Int) (t : Tok) (l : Addr) : findObj K 243 (some (hdrDict h t l)) "_headers" = some (.value (.ref l)) := by
  obtain ⟨cd, hc, hd⟩ := C.cls
  unfold findObj
  rw [hc, C.hdr]
  show (W.ownOf cd (some (hdrDict h t l)) "_headers").bind _ = _
  have : W.ownOf cd (some (hdrDict h t l)) "_headers" = some (some (.ref l)) := by unfold W.ownOf; rw [hd]; rfl
  rw [this]; rfl
theorem hdr_shadow (h : Int) (t : Tok) (l : Addr) : ∀ n ∈ [("_convert_string_type" : Str), "get", "items", "add_header"], shadowIn (some (hdrDict h t l)) n = some false := by
  intro n hn
  simp only [List.mem_cons, List.not_mem_nil, or_false] at hn
  rcases hn with rfl | rfl | rfl | rfl <;> rfl
theorem Ev.go {prog : Program} {w : World} {B₀ : Heap} {A : Around} {env : Env} {MU : List Addr} {ρ : List (Str × D)} {e : Expr} {d : D} {s : Shared} {E : Value → Shared → Prop} (h : Ev prog w B₀ A env MU ρ e d) (F : Frm B₀ env MU ρ s.heap) :
    wpAny (model prog w) A (eval e env) (fun v s' => Rp (Hid MU s'.heap) v d ∧ Kp s s') E s := h s E F
section
variable {w : World} {B₀ : Heap} {mg mb : Str → Option Value} {A : Around} {mu : List Addr}
theorem init_ok {K : Frag} (X : K.In B₀) (C : ClsI K) (B : Base B₀ mg mb) (HF : HdF B₀ mg mb) (HI : HdI B₀ mg mb) {x dx : Addr} (hh : A.handled = none) (hd : A.depth + 30 < recursionLimit) {s : Shared} {R : Result → Shared → Prop}
    (g : Sub B₀ s.heap) (low : Low mu s.heap) (hb : ∀ b ∈ mu, B₀.get? b = none) (hx : s.heap.get? x = some (instObj 243 dx)) (hdx : s.heap.get? dx = some emptyDict) (ndx : dx ∉ mu)
    (hR : ∀ s' l h t, KB [dx] s s' → s.heap.get? l = none → s'.heap.PlainList l ([] : List Value).toArray → s'.heap.get? dx = some (hdrDict h t l) → R (.ok (.ret .none)) s') :
    codeAny (model theProg w) A (.call (.ref 135) ⟨[.ref x], []⟩) R s := by
  obtain ⟨oc, od, sl, eo⟩ := HI.init.obj
  obtain ⟨tc, td, tn, ts, et⟩ := HI.dflt
  have sub01 : Sub B₀ (Hid mu s.heap) := fun b o e => hid_of (fun q => by rw [hb b q] at e; cases e) (g _ _ e)
  have B1 := B.mono sub01
  refine call_genC (B₀ := Hid mu s.heap) (ds := [.raw (.ref x), .none]) (ρc := []) B1 init_fn (g _ _ eo) (code_keeps g HI.init.code) (by omega) hid_sub low (fun n c e => by cases e) (fun n n' c e => by cases e) (fun y d e => by cases e)
    (fun A' E' Q' k => (BindsTo.of_defaults (binds := [("self" : Str), "headers"].zip [.ref x, .none]) rfl (g _ _ et) rfl rfl rfl : BindsTo s fdInit ⟨[.ref x], []⟩ _) _ _ _ _ (k _ s (Kp.refl s) (.cons (.raw _) (.cons .none .nil)) rfl)) fun L s₁ nL K₁ F E => ?_
  have nLB : ∀ b ∈ [L] ++ mu, (Hid mu s.heap).get? b = none := fun b hm => by
    rcases List.mem_cons.mp hm with q | hm
    · cases z : (Hid mu s.heap).get? b with | none => rfl | some o => rw [q] at z; rw [(hid_get z).2] at nL; cases nL
    · exact hideAll_none mu hm
  have S : St (Hid mu s.heap) s [] (callEnv fdInit L 135) ([L] ++ mu) _ [] s₁ := ⟨⟨F, fun _ h => (nomatch h), List.Pairwise.nil⟩, K₁.kb, .inr nL, (fun n c _ e => by cases e), fun _ h => (nomatch h)⟩
  have hA : (A.deeper (callEnv fdInit L 135)).handled = none := hh
  show wpAny _ _ (execs (_ :: _) _) _ _ _
  refine x_next ?_
  refine s_new S (EvN.iteF (Ts.noneNot (Ev.name rfl) Ev.cNone) (EvN.list .nil (sz (by simp)))) (.inl ⟨rfl, rfl⟩) fun a s₂ ha S₂ => ⟨rfl, ?_⟩
  have fa : s.heap.get? a = none := (S₂.fw _ (.head _)).resolve_left (by simp)
  have adx : a ≠ dx := fun q => by rw [q, hdx] at fa; cases fa
  have ndx' : dx ∉ [L] ++ mu := fun hm => by
    rcases List.mem_cons.mp hm with q | hm
    · rw [← q, hdx] at nL; cases nL
    · exact ndx hm
  obtain ⟨S₃, ra⟩ := S₂.freeze0 ha
  have sub12 := S₃.baseSub nLB
  have S₄ := (S₃.rebase).weak (ρ' := [("headers", .raw (.ref a)), ("self", .raw (.ref x))]) (lk_cons (lk_one rfl lk_nil))
  have hb2 : ∀ b ∈ [L] ++ mu, (Hid ([L] ++ mu) s₂.heap).get? b = none := fun b hm => hideAll_none _ hm
  have B2 := B1.mono sub12
  refine x_next ?_
  refine s_if S₄ (Ts.isNotV (Ev.typeL B2 HF.ty (Ev.rawL (Ev.name rfl) ra hb2)) (Ev.glb B2 HI.li) rfl) fun s₅ S₅ => ?_
  show wpAny _ _ (execs [] _) _ _ _
  refine wpAny_execs_nil ⟨rfl, ?_⟩
  refine x_next ?_
  refine plainObj_wpAny_Assign_Attribute (wpAny_mono (Ev.go (d := .raw (.ref a)) (Ev.name rfl) S₅.f) (fun v s₆ ⟨rv, K₆⟩ => ?_) fun _ _ x => x)
  have S₆ := S₅.kp K₆
  refine wpAny_mono (Ev.go (d := .raw (.ref x)) (Ev.name rfl) S₆.f) (fun ov s₇ ⟨ro, K₇⟩ => ?_) fun _ _ x => x
  have S₇ := S₆.kp K₇
  (first | obtain ⟨_, rfl⟩ := rp_int rv | obtain ⟨_, rfl⟩ := rp_str rv | obtain rfl := rp_raw rv | obtain rfl := rps_nil rv | cases rv); (first | obtain ⟨_, rfl⟩ := rp_int ro | obtain ⟨_, rfl⟩ := rp_str ro | obtain rfl := rp_raw ro | obtain rfl := rps_nil ro | cases ro)
  have k7 := S₇.k.kp
  have X7 : K.In s₇.heap := In.mono X (g.trans k7.sub)
  have I7 : W.InstAt s₇.heap x (instObj 243 dx) 243 (some emptyDict) := ⟨k7.sub _ _ hx, rfl, rfl, k7.sub _ _ hdx⟩
  have hD : (clsIn K 243).any (·.hasDict) = true := by obtain ⟨cd, hc, hd⟩ := C.cls; rw [hc]; exact hd
  have hT : takerIn K 243 "_headers" = some none := by unfold takerIn; rw [C.hdr]; rfl
  refine set_plain X7 I7 C.sa (osa_here (s := { s₇ with toks := s₇.toks + 1 }) (es := [⟨PyData.keyHash w.params ("_headers" : Str), .str "_headers" (s₇.toks + 1), .ref a⟩]) (n := 1) (od' := hdrDict (PyData.keyHash w.params ("_headers" : Str)) (s₇.toks + 1) a) X7 (k7.sub _ _ hdx) I7 rfl C.over hT hD rfl rfl rfl (by simp) ?_)
  refine ⟨rfl, ?_⟩
  generalize hs8 : ({ s₇ with heap := s₇.heap.update dx (Obj.putName "_headers" (PyData.keyHash w.params ("_headers" : Str)) (.str "_headers" (s₇.toks + 1)) (.ref a)), toks := s₇.toks + 1 + 1 } : Shared) = s₈
  have sb8 : Heap.SameBut dx s₇.heap s₈.heap := by rw [← hs8]; exact Heap.SameBut.update ..
  have K₈ : KB [dx] s₇ s₈ := by rw [← hs8]; exact ⟨_, _, rfl, sb1 (Heap.SameBut.update ..)⟩
  have d8 : s₈.heap.get? dx = some (hdrDict (PyData.keyHash w.params ("_headers" : Str)) (s₇.toks + 1) a) := by
    rw [← hs8]; exact Heap.get?_update_self _ (k7.sub _ _ hdx) rfl
  have a7 : s₇.heap.PlainList a ([] : List Value).toArray := by
    cases ra with
    | lst p q =>
      cases q
      obtain ⟨n, e⟩ := p
      exact ⟨n, S₇.f.g _ _ e⟩
  have a8 : s₈.heap.PlainList a ([] : List Value).toArray := let ⟨n, e⟩ := a7; ⟨n, sameBut_get sb8 adx e⟩
  have S₈ := S₇.turn K₈ ndx' (fun y d e => by
    rw [List.lookup_cons] at e
    split at e
    · cases e; exact ⟨_, rfl⟩
    · rw [List.lookup_cons] at e
      split at e
      · cases e; exact ⟨_, rfl⟩
      · cases e)
  have na : a ∉ [L] ++ mu := ha
  have ra8 : Rp (Hid ([L] ++ mu) s₈.heap) (.ref a) (.lst []) := let ⟨n, e⟩ := a8; .lst ⟨n, hid_of na e⟩ .nil
  have hb8 : ∀ b ∈ [L] ++ mu, (Hid ([L] ++ mu) s₈.heap).get? b = none := fun b hm => hideAll_none _ hm
  refine x_next ?_
  refine s_if S₈ (Ts.bool (Ev.cBool (b := true))) fun s₉ S₉ => ?_
  show wpAny _ _ (execs (_ :: _) _) _ _ _
  refine x_next ?_
  refine s_for0 (ds := []) (fun i => _) (fun i => []) S₉ (It.list hA (Ev.rawL (Ev.name rfl) ra8 hb8) (sz (by simp))) (lk_refl _) rfl (fun i => rfl) (fun i d MU s₀ md s₆ E v ed => by cases ed) fun s₁₀ S₁₀ => ⟨rfl, ?_⟩
  refine wpAny_execs_nil ⟨rfl, wpAny_execs_nil ?_⟩
  have k10 := S₁₀.f.g
  refine hR s₁₀ a _ _ S₁₀.k fa (let ⟨n, e⟩ := a8; ⟨n, k10 _ _ (hid_of na e)⟩) (k10 _ _ (hid_of ndx' d8))
/-- what making a Headers leaves -/
structure HNew (K : Frag) (s : Shared) (x l : Addr) (s' : Shared) : Prop where
  k : Kp s s'
  nl : s.heap.get? l = none
  pl : s'.heap.PlainList l ([] : List Value).toArray
  xl : x ≠ l
  nx : s.heap.get? x = none
  at_ : ∃ dx h t, s.heap.get? dx = none ∧ dx ≠ l ∧ s'.heap.get? x = some (instObj 243 dx) ∧ s'.heap.get? dx = some (hdrDict h t l)
theorem make_ok {K : Frag} (X : K.In B₀) (C : ClsI K) (B : Base B₀ mg mb) (HF : HdF B₀ mg mb) (HI : HdI B₀ mg mb) (hh : A.handled = none) (hd : A.depth + 40 < recursionLimit) {s : Shared} {E : Value → Shared → Prop} {Q : Value → Shared → Prop}
    (g : Sub B₀ s.heap) (low : Low mu s.heap) (hb : ∀ b ∈ mu, B₀.get? b = none) (hQ : ∀ x l s', HNew K s x l s' → Q (.ref x) s') :
    wpAny (model theProg w) A (call (.ref 243) []) Q E s := by
  obtain ⟨h, gn, d, t, os⟩ := s
  have X0 : K.In h := In.mono X g
  refine wpAny_call (make_core (makes_of X0 C.makes) (looks_findIn X0 C.mInit) (fun self => bind_fn X0 self C.tInit) (.inl rfl) ?_)
  have k : ∀ b o, h.get? b = some o → ((h.push emptyDict).push (instObj 243 h.objs.size)).get? b = some o := fun b o e => Heap.get?_push_of_some _ (Heap.get?_push_of_some _ e)
  have hx : ((h.push emptyDict).push (instObj 243 h.objs.size)).get? (h.objs.size + 1) = some (instObj 243 h.objs.size) := by heap_get
  have hdx : ((h.push emptyDict).push (instObj 243 h.objs.size)).get? h.objs.size = some emptyDict := Heap.get?_push_of_some _ (Heap.get?_push_size _ rfl)
  refine init_ok (A := A.under (.builtin "type.__call__" ⟨[.ref 243], []⟩)) (mu := mu) (s := ⟨(h.push emptyDict).push (instObj 243 h.objs.size), gn, d, t, os⟩) X C B HF HI hh (by
    show A.depth + Code.weight _ + 30 < _
    have : Code.weight (.builtin "type.__call__" ⟨[.ref 243], []⟩) ≤ 5 := by decide +kernel
    omega) (fun b o e => k b o (g _ _ e)) (fun b hb => let ⟨o, e⟩ := low b hb; ⟨o, k _ _ e⟩) hb hx hdx (Low.fresh low) fun s' l hh' t' K' nl pl ed => ?_
  refine ⟨rfl, hQ _ l s' ?_⟩
  have nd : h.get? h.objs.size = none := size_none h
  have nx : h.get? (h.objs.size + 1) = none := by
    cases q : h.get? (h.objs.size + 1) with
    | none => rfl
    | some o => exact absurd (Heap.lt_size q) (Nat.not_lt.mpr (Nat.le_succ _))
  have ldx : h.objs.size ≠ l := fun q => by rw [← q] at nl; have := hdx; rw [show ((h.push emptyDict).push (instObj 243 h.objs.size)).get? h.objs.size = none from nl] at this; cases this
  have lx : h.objs.size + 1 ≠ l := fun q => by rw [← q] at nl; have := hx; rw [show ((h.push emptyDict).push (instObj 243 h.objs.size)).get? (h.objs.size + 1) = none from nl] at this; cases this
  refine ⟨?_, ?_, pl, lx, nx, h.objs.size, hh', t', nd, ldx, K'.sub _ _ (by simp) hx, ed⟩
  · obtain ⟨h', tk, rfl, kk⟩ := K'
    exact ⟨h', tk, rfl, fun b o e => kk b o (fun q => by rw [List.mem_singleton] at q; subst q; rw [show h.get? h.objs.size = some o from e] at nd; cases nd) (k b o e)⟩
  · cases q : h.get? l with
    | none => rfl
    | some o => have := k l o q; rw [show ((h.push emptyDict).push (instObj 243 h.objs.size)).get? l = none from nl] at this; cases this
theorem HNew.hdr {K : Frag} (C : ClsI K) {s s' : Shared} {x l : Addr} (N : HNew K s x l s') (low : Low mu s.heap) : HdrAt K (Hid (l :: mu) s'.heap) x l := by
  obtain ⟨dx, h, t, nd, dl, ex, ed⟩ := N.at_
  have fr : ∀ b, s.heap.get? b = none → b ≠ l → b ∉ l :: mu := fun b n q hm => by
    rcases List.mem_cons.mp hm with e | hm
    · exact q e
    · obtain ⟨o, eo⟩ := low b hm; rw [n] at eo; cases eo
  exact ⟨_, _, ⟨hid_of (fr x N.nx N.xl) ex, rfl, rfl, hid_of (fr dx nd dl) ed⟩, hdr_find C h t l, hdr_shadow h t l⟩
end
end Mine
end
end
section
set_option Elab.async false
noncomputable section
open PySem PySem.W PySem.Calls PyProof.Rows
set_option maxRecDepth 100000
set_option linter.unusedVariables false
set_option maxHeartbeats 1000000
namespace Mine
noncomputable def tagS (c : Nat) : Str := Str.ofString (toString (c : Int))
section
variable {prog : Program} {w : World} {B₀ : Heap} {A : Around} {env : Env} {MU mu md : List Addr} {ρ : List (Str × D)} {ω : List (Addr × List D)} {s₀ s s' : Shared} {E : Value → Shared → Prop} {mg mb : Str → Option Value} {pos : Pos}
theorem Ev.strI (B : Base B₀ mg mb) {e : Expr} {c : Nat} {np : Pos} (hg : Glb mg mb "str" (.type "str")) (he : Ev prog w B₀ A env MU ρ e (.int (c : Int))) (hc : c < 100000) (hs : starEach [e] env = [(false, eval e env)] := by rfl) (hk : env.kindOf "str" = some .globalImplicit := by rfl) :
    Ev prog w B₀ A env MU ρ (.Call (.Name "str" np) [e] [] pos) (.str (tagS c)) :=
  Ev.call B hg (CW.type _) (.cons he hs .nil) (fun vs s E r F => by
    replace r := rps_cons r; obtain ⟨_, _, rfl, r1, r2⟩ := r
    (first | obtain ⟨_, rfl⟩ := rp_int r2 | obtain ⟨_, rfl⟩ := rp_str r2 | obtain rfl := rp_raw r2 | obtain rfl := rps_nil r2 | cases r2); (first | obtain ⟨_, rfl⟩ := rp_int r1 | obtain ⟨_, rfl⟩ := rp_str r1 | obtain rfl := rp_raw r1 | obtain rfl := rps_nil r1 | cases r1)
    refine P.str_of_int ?_ ⟨.str _ _, Kp.tok s _⟩
    show c.log2 < 1920
    have : c.log2 ≤ c := Nat.log2_le_self c
    by_cases q : c = 0
    · subst q; decide
    · rw [Nat.log2_lt q]
      exact Nat.lt_of_lt_of_le hc (by decide +kernel)) hk
theorem Ev.intT (B : Base B₀ mg mb) {e : Expr} {c : Nat} {np : Pos} (hg : Glb mg mb "int" (.type "int")) (he : Ev prog w B₀ A env MU ρ e (.str (tagS c))) (hc : c < 100000) (hs : starEach [e] env = [(false, eval e env)] := by rfl) (hk : env.kindOf "int" = some .globalImplicit := by rfl) :
    Ev prog w B₀ A env MU ρ (.Call (.Name "int" np) [e] [] pos) (.int (c : Int)) :=
  Ev.call B hg (CW.type _) (.cons he hs .nil) (fun vs s E r F => by
    replace r := rps_cons r; obtain ⟨_, _, rfl, r1, r2⟩ := r
    (first | obtain ⟨_, rfl⟩ := rp_int r2 | obtain ⟨_, rfl⟩ := rp_str r2 | obtain rfl := rp_raw r2 | obtain rfl := rps_nil r2 | cases r2); (first | obtain ⟨_, rfl⟩ := rp_int r1 | obtain ⟨_, rfl⟩ := rp_str r1 | obtain rfl := rp_raw r1 | obtain rfl := rps_nil r1 | cases r1)
    exact KIN.call_num (by omega) (by omega) ⟨.int _ _, Kp.tok s _⟩) hk
/-- an item of a dict -/
theorem valueAt_zip {h : Heap} {x : Str} {d : D} : ∀ {ks : List Str} {vs : List Value} {ds : List D}, Rps h vs ds → (ks.zip ds).lookup x = some d → ∃ v, valueAt (ks.zip vs) x = some v ∧ Rp h v d
  | [], _, _, _, e => by cases e
  | n :: ns, _, _, .nil, e => by cases e
  | n :: ns, _, _, .cons (v := v) (vs := vs) a b, e => by
    rw [List.zip_cons_cons, List.lookup_cons] at e
    cases q : x == n with
    | true => rw [q] at e; cases e; exact ⟨v, by have := eq_of_beq q; subst this; simp [valueAt], a⟩
    | false =>
      rw [q] at e
      obtain ⟨v', m, r⟩ := valueAt_zip b e
      refine ⟨v', ?_, r⟩
      have hn : n ≠ x := fun z => by rw [z] at q; simp at q
      have : valueAt ((n, v) :: ns.zip vs) x = valueAt (ns.zip vs) x := by simp [valueAt, hn]
      rw [List.zip_cons_cons, this]; exact m
theorem Ev.didx {l r : Expr} {ks : List Str} {ds : List D} {x : Str} {d : D} (hl : Ev prog w B₀ A env MU ρ l (.dct prog w ks ds)) (hr : Ev prog w B₀ A env MU ρ r (.str x)) (hd : (ks.zip ds).lookup x = some d)
    (hs : ∀ o j, subscripted r false (.ref o) (.str x j) = operate [.ref o, .str x j] (getItem (.ref o) (.str x j)) := by intro _ _; rfl) : Ev prog w B₀ A env MU ρ (.Subscript l r pos) d := fun s E F =>
  Subscript_ (Ev.two hl hr F fun va vb s' ra rb K F' => by
    cases ra with
    | dct p hlen q =>
      obtain ⟨t, rfl⟩ := rp_str rb
      obtain ⟨v, ev, rv⟩ := valueAt_zip q hd
      have p' := dict_at p (fun o e => (hid_get e).2)
      have hm := p'.mapOf
      exact tail_any hm.typeIs slot_dict_getitem.lookup (wpAny_getItem_of (strKind_is prog w x t) hm ev ⟨rv, K.trans (Kp.tok s' _)⟩) (hs _ _))
/-- an if whose test is known here alone -/
theorem s_ifAt {t : Expr} {body orelse : List Stmt} {b : Bool} {Q : Flow → Shared → Prop} (S : St B₀ s₀ md env MU ρ ω s) (ht : ∀ E, wpAny (model prog w) A (isTrue t env (eval t env)) (fun v s' => v = b ∧ Kp s s') E s)
    (h : ∀ s', St B₀ s₀ md env MU ρ ω s' → wpAny (model prog w) A (execs (if b then body else orelse) env) Q E s') : wpAny (model prog w) A (exec (.If t body orelse pos) env) Q E s :=
  wpAny_If (wpAny_mono (ht E) (fun c s' ⟨e, K⟩ => by
    subst e
    have := h s' (S.kp K)
    cases c with
    | true => exact this
    | false => exact this) fun _ _ x => x)
/-- a method of a Headers is called -/
theorem hdr_call {K : Frag} (X : K.In B₀) (C : ClsK K) {x l fa : Addr} {name : Str} (mN : findIn K (.ref 243) name = some (some (.ref fa))) (tN : typeIn K (.ref fa) = some (.type "function")) (H : HdrAt K B₀ x l) (hn : name ∈ [("_convert_string_type" : Str), "get", "items", "add_header"]) (FN : FnAt fa B₀)
    {o : Expr} {es : List Expr} {ds : List D} {apos : Pos} {pl : Sem Bool} {Q : Value → Shared → Prop} (F : Frm B₀ env MU ρ s.heap) (ho : Ev prog w B₀ A env MU ρ o (.raw (.ref x))) (hes : Evs prog w B₀ A env MU ρ es ds)
    (h : ∀ vs s', Rps (Hid MU s'.heap) vs ds → Kp s s' → wpAny (model prog w) A (call (.ref fa) (.ref x :: vs)) Q E s')
    (hev : eval (.Call (.Attribute o name apos) es [] pos) env = (do
      let ov ← eval o env
      standAt apos.atName
      let (f, first) ← holding [ov] (getMethod ov name pl)
      callWith pos f first (backTo pos (starEach es env)) (backToKw pos (keywordEach [] env))) := by rfl) :
    wpAny (model prog w) A (eval (.Call (.Attribute o name apos) es [] pos) env) Q E s := by
  refine methodCall_KW (wpAny_mono (ho s E F) (fun v s₁ ⟨r, K₁⟩ => ?_) fun _ _ x => x) hev
  (first | obtain ⟨_, rfl⟩ := rp_int r | obtain ⟨_, rfl⟩ := rp_str r | obtain rfl := rp_raw r | obtain rfl := rps_nil r | cases r)
  obtain ⟨ox, od, I, f, sh⟩ := H.inst
  have g₁ := (F.keeps K₁).g
  refine method_fn (In.mono X g₁) (instAt_mono I g₁) C.ga C.gk mN tN (sh _ hn) ?_
  have F₁ := F.keeps K₁
  refine callWith_of (P := fun h => FnAt fa h) (by show ((backTo pos (starEach es env)).any (·.1) || false) = false; rw [hes.plain]; rfl) keeps_F ?_
  exact hes.args F₁ fun vs s₂ r K₂ => ⟨let ⟨oc, od, fd, sl, e⟩ := FN; ⟨oc, od, fd, sl, (F₁.keeps K₂).g _ _ e⟩, h vs s₂ r (K₁.trans K₂)⟩
end
theorem FnAtB.fn {B₀ : Heap} {a : Addr} {fd : FuncData} (x : FnAtB B₀ a fd) : FnAt a B₀ := let ⟨oc, od, sl, e⟩ := x.obj; ⟨oc, od, fd, sl, e⟩
/-- what _law_filed needs of the top -/
structure Fls (K : Frag) (B₀ : Heap) (mg mb : Str → Option Value) : Prop where
  x : K.In B₀
  ck : ClsK K
  ci : ClsI K
  hf : HdF B₀ mg mb
  hi : HdI B₀ mg mb
  hd : Glb mg mb "Headers" (.ref 243)
  int : Glb mg mb "int" (.type "int")
  get : FnAtB B₀ 190 fdGet
  gdf : ∃ oc od n sl, B₀.get? 183 = some ⟨oc, od, .seq #[.none] n, sl⟩
  items : FnAtB B₀ 207 fdItems
  add : FnAtB B₀ 240 fdAdd
theorem Fls.mono {K : Frag} {B₀ B₁ : Heap} {mg mb : Str → Option Value} (X : Fls K B₀ mg mb) (k : Sub B₀ B₁) : Fls K B₁ mg mb :=
  ⟨In.mono X.x k, X.ck, X.ci, X.hf.mono k, ⟨X.hi.li, X.hi.init.mono k, let ⟨oc, od, n, sl, e⟩ := X.hi.dflt; ⟨oc, od, n, sl, k _ _ e⟩⟩, X.hd, X.int, X.get.mono k, let ⟨oc, od, n, sl, e⟩ := X.gdf; ⟨oc, od, n, sl, k _ _ e⟩, X.items.mono k, X.add.mono k⟩
section
variable {w : World} {B₀ : Heap} {A : Around} {env : Env} {MU mu md : List Addr} {ρ : List (Str × D)} {ω : List (Addr × List D)} {s₀ s s' : Shared} {E : Value → Shared → Prop} {mg mb : Str → Option Value} {pos : Pos}
/-- x = Headers() -/
theorem s_book {K : Frag} (B : Base B₀ mg mb) (X : Fls K B₀ mg mb) {y : Str} {py np pos' : Pos} {a : Addr} {Q : Flow → Shared → Prop} (S : St B₀ s₀ md env MU ρ [] s) (hb : ∀ b ∈ MU, B₀.get? b = none) (hh : A.handled = none) (hd : A.depth + 40 < recursionLimit) (T : SlotOf env y a)
    (h : ∀ B₁ x l s', Sub B₀ B₁ → HdrAt K B₁ x l → (∀ b ∈ l :: MU, B₁.get? b = none) → l ∉ MU → St B₁ s₀ md env (l :: MU) ((y, .raw (.ref x)) :: ρ) [(l, [])] s' → Q .next s')
    (hk : env.kindOf "Headers" = some .globalImplicit := by rfl) (hs : swapsWith (.Call (.Name "Headers" np) [] [] pos') (some (.Name y py)) pos.line env = pure false := by rfl) :
    wpAny (model theProg w) A (exec (.Assign [.Name y py] (.Call (.Name "Headers" np) [] [] pos') pos) env) Q E s := by
  refine wpAny_Assign_Name (wpAny_Call_NameR (loadGlb B S.f X.hd hk ?_ (by decide +kernel))) hs
  refine callWith_of (P := fun h => K.In h) rfl (keeps_K X.ci.keep) ?_
  refine PySem.evalArgs_none ⟨In.mono X.x S.f.g, ?_⟩
  refine make_ok (mu := MU) X.x X.ci B X.hf X.hi hh hd S.f.g S.f.low hb fun x l s₁ N => ?_
  have ac : Acc l (l :: MU) [] s₁.heap := ⟨[], N.pl, .nil⟩
  have S₁ := S.new N.k N.nl ac
  have S₂ := S₁.rebase
  refine S₂.store T (.raw (.ref x)) fun s₂ S₃ => h _ x l s₂ ?_ (N.hdr X.ci S.f.low) (fun b hm => hideAll_none _ hm) (fun hm => by obtain ⟨o, eo⟩ := S.f.low l hm; rw [N.nl] at eo; cases eo) S₃
  refine S₁.baseSub fun b hm => ?_
  rcases List.mem_cons.mp hm with q | hm
  · cases z : B₀.get? b with
    | none => rfl
    | some o => have := S.f.g _ _ z; rw [q, N.nl] at this; cases this
  · exact hb b hm
/-- book.get(now) is not None -/
theorem get_test {K : Frag} (B : Base B₀ mg mb) (X : Fls K B₀ mg mb) {x l : Addr} (H : HdrAt K B₀ x l) {items : List (Str × Str)} {now : Str} (S : St B₀ s₀ md env MU ρ ω s) (hm : (l, items.map pairD) ∈ ω) (hn : items.length ≤ 100000) (hit : ∀ p ∈ items, p.1.length ≤ 1000)
    (hx : now.length ≤ 1000) (hc : Clean (Txt.lower now)) (hl : (Txt.lower now).cps.size ≤ 100000) (hh : A.handled = none) (hd : A.depth + 30 < recursionLimit) {o e : Expr} {apos cpos p : Pos} {k : Nat} {pl : Sem Bool} (ho : Ev theProg w B₀ A env MU ρ o (.raw (.ref x))) (he : Ev theProg w B₀ A env MU ρ e (.str now))
    (hs : starEach [e] env = [(false, eval e env)] := by rfl)
    (hev : eval (.Call (.Attribute o "get" apos) [e] [] pos) env = (do
      let ov ← eval o env
      standAt apos.atName
      let (f, first) ← holding [ov] (getMethod ov "get" pl)
      callWith pos f first (backTo pos (starEach [e] env)) (backToKw pos (keywordEach [] env))) := by rfl) {E : Value → Shared → Prop} {whole : Sem Value} :
    wpAny (model theProg w) A (isTrue (.Compare (.Call (.Attribute o "get" apos) [e] [] pos) [.IsNot] [.Constant .none k p] cpos) env whole) (fun v s' => v = (getP items (Txt.lower now)).isSome ∧ Kp s s') E s := by
  refine wpAny_isTrue_Compare1 ?_
  refine hdr_call X.x X.ck X.ck.mGet X.ck.tGet H (.tail _ (.head _)) X.get.fn S.f ho (.cons he hs .nil) (fun vs s₁ r K₁ => ?_) hev
  replace r := rps_cons r; obtain ⟨_, _, rfl, r1, r2⟩ := r
  (first | obtain ⟨_, rfl⟩ := rp_int r2 | obtain ⟨_, rfl⟩ := rp_str r2 | obtain rfl := rp_raw r2 | obtain rfl := rps_nil r2 | cases r2); (first | obtain ⟨_, rfl⟩ := rp_int r1 | obtain ⟨_, rfl⟩ := rp_str r1 | obtain rfl := rp_raw r1 | obtain rfl := rps_nil r1 | cases r1)
  have S₁ := S.kp K₁
  have X₁ := X.mono S₁.f.g
  obtain ⟨⟨us, pl, rs⟩, sd⟩ := S₁.fo.o _ hm
  have rl : Rp s₁.heap (.ref l) (.lst (items.map pairD)) := .lst pl (rs.mono hid_sub)
  refine wpAny_mono (get_ok X₁.x X₁.ck (B.mono S₁.f.g) X₁.hf X₁.get X₁.gdf (H.mono S₁.f.g) rl hn hit hx hc hl hh hd (Sub.refl _)) (fun v s₂ ⟨rv, K₂⟩ => ?_) fun _ _ x => x
  refine Constant_none ?_
  cases q : getP items (Txt.lower now) with
  | none =>
    rw [q] at rv; (first | obtain ⟨_, rfl⟩ := rp_int rv | obtain ⟨_, rfl⟩ := rp_str rv | obtain rfl := rp_raw rv | obtain rfl := rps_nil rv | cases rv)
    exact wpAny_isNot_self rfl (wpAny_truthy_bool ⟨rfl, K₁.trans K₂⟩)
  | some y =>
    rw [q] at rv; (first | obtain ⟨_, rfl⟩ := rp_int rv | obtain ⟨_, rfl⟩ := rp_str rv | obtain rfl := rp_raw rv | obtain rfl := rps_nil rv | cases rv)
    exact wpAny_isNot_other rfl (by intro h; cases h) (wpAny_truthy_bool ⟨rfl, K₁.trans K₂⟩)
/-- book.add_header(now, tag) -/
theorem s_add {K : Frag} (B : Base B₀ mg mb) (X : Fls K B₀ mg mb) {x l : Addr} (H : HdrAt K B₀ x l) {ds : List D} {nm val : Str} {ω₁ ω₂ : List (Addr × List D)} (S : St B₀ s₀ md env MU ρ (ω₁ ++ (l, ds) :: ω₂) s) (hn : ds.length ≤ 100000) (c1 : Clean nm) (c2 : Clean val) (l1 : nm.length ≤ 1000) (l2 : val.length ≤ 1000)
    (hh : A.handled = none) (hd : A.depth + 30 < recursionLimit) {o e e' : Expr} {apos cpos : Pos} {pl : Sem Bool} {Q : Flow → Shared → Prop} (ho : Ev theProg w B₀ A env MU ρ o (.raw (.ref x))) (he : Ev theProg w B₀ A env MU ρ e (.str nm)) (he' : Ev theProg w B₀ A env MU ρ e' (.str val))
    (h : ∀ s', St B₀ s₀ md env MU ρ (ω₁ ++ (l, ds ++ [.tup [.str nm, .str val]]) :: ω₂) s' → Q .next s')
    (hs : starEach [e, e'] env = (false, eval e env) :: starEach [e'] env := by rfl) (hs' : starEach [e'] env = [(false, eval e' env)] := by rfl)
    (hev : eval (.Call (.Attribute o "add_header" apos) [e, e'] [] cpos) env = (do
      let ov ← eval o env
      standAt apos.atName
      let (f, first) ← holding [ov] (getMethod ov "add_header" pl)
      callWith cpos f first (backTo cpos (starEach [e, e'] env)) (backToKw cpos (keywordEach [] env))) := by rfl)
    (hi : interactive env = false := by rfl) (hsw : swapsWith (.Call (.Attribute o "add_header" apos) [e, e'] [] cpos) none pos.line env = pure false := by rfl) :
    wpAny (model theProg w) A (exec (.Expr (.Call (.Attribute o "add_header" apos) [e, e'] [] cpos) pos) env) Q E s := by
  refine wpAny_Expr ?_ hi hsw
  refine hdr_call X.x X.ck X.ck.mAdd X.ck.tAdd H (by simp) X.add.fn S.f ho (.cons he hs (.cons he' hs' .nil)) (fun vs s₁ r K₁ => ?_) hev
  replace r := rps_cons r; obtain ⟨_, _, rfl, r1, r2⟩ := r
  replace r2 := rps_cons r2; obtain ⟨_, _, rfl, r2, r3⟩ := r2
  (first | obtain ⟨_, rfl⟩ := rp_int r3 | obtain ⟨_, rfl⟩ := rp_str r3 | obtain rfl := rp_raw r3 | obtain rfl := rps_nil r3 | cases r3); (first | obtain ⟨_, rfl⟩ := rp_int r1 | obtain ⟨_, rfl⟩ := rp_str r1 | obtain rfl := rp_raw r1 | obtain rfl := rps_nil r1 | cases r1); (first | obtain ⟨_, rfl⟩ := rp_int r2 | obtain ⟨_, rfl⟩ := rp_str r2 | obtain rfl := rp_raw r2 | obtain rfl := rps_nil r2 | cases r2)
  have S₁ := S.kp K₁
  obtain ⟨ac, sd⟩ := S₁.fo.o (l, ds) (by simp)
  refine wpAny_mono (add_ok X.x X.ck B X.hf X.add H hn c1 c2 l1 l2 hh hd S₁.f.g S₁.f.low sd.mem sd.base ac) (fun v s₂ ⟨e, K₂, ac₂⟩ => ?_) fun _ _ x => x
  subst e
  exact h s₂ (S₁.upd K₂ ac₂)
/-- book.items() -/
theorem Ev.items {K : Frag} (B : Base B₀ mg mb) (X : Fls K B₀ mg mb) {x l : Addr} (H : HdrAt K B₀ x l) {items : List (Str × Str)} (r : Rp B₀ (.ref l) (.lst (items.map pairD))) (hb : ∀ b ∈ MU, B₀.get? b = none) (hn : items.length ≤ 100000)
    (hh : A.handled = none) (hd : A.depth + 30 < recursionLimit) {o : Expr} {apos : Pos} {pl : Sem Bool} (ho : Ev theProg w B₀ A env MU ρ o (.raw (.ref x)))
    (hev : eval (.Call (.Attribute o "items" apos) [] [] pos) env = (do
      let ov ← eval o env
      standAt apos.atName
      let (f, first) ← holding [ov] (getMethod ov "items" pl)
      callWith pos f first (backTo pos (starEach [] env)) (backToKw pos (keywordEach [] env))) := by rfl) :
    Ev theProg w B₀ A env MU ρ (.Call (.Attribute o "items" apos) [] [] pos) (.lst (items.map pairD)) := fun s E F => by
  refine hdr_call X.x X.ck X.ck.mItems X.ck.tItems H (by simp) X.items.fn F ho .nil (fun vs s₁ r' K₁ => ?_) hev
  (first | obtain ⟨_, rfl⟩ := rp_int r' | obtain ⟨_, rfl⟩ := rp_str r' | obtain rfl := rp_raw r' | obtain rfl := rps_nil r' | cases r')
  have F₁ := F.keeps K₁
  exact wpAny_mono (items_ok X.x X.ck B X.items H r hn hh hd F₁.g F₁.low hb) (fun v s₂ ⟨a, b⟩ => ⟨a, K₁.trans b⟩) fun _ _ x => x
end
end Mine
end
end
section
set_option Elab.async false
noncomputable section
open PySem PySem.W PySem.Calls PyProof.Rows
set_option maxRecDepth 100000
set_option linter.unusedVariables false
set_option maxHeartbeats 1000000
namespace Mine
noncomputable def fdFiled : FuncData := fdOf 263 (.str (Str.ofString "law_qu0060_01") 705) (topStmt 24)
noncomputable def aft (ks vs : List Str) (x : Str) : Str := ((ks.zip vs).lookup x).getD ("" : Str)
noncomputable def flNow (f : Str → Str) (word : Str) : Nat → Str
  | 0 => word
  | i + 1 => if i % 2 = 0 then Txt.upper (f (Txt.lower (flNow f word i))) else f (Txt.lower (flNow f word i))
noncomputable def flIt (f : Str → Str) (word tag : Str) (its : List (Str × Str)) (i : Nat) : List (Str × Str) := its ++ (List.range i).map fun j => (flNow f word j, tag)
noncomputable def flStop (f : Str → Str) (word tag : Str) (its : List (Str × Str)) (i : Nat) : Bool := (getP (flIt f word tag its i) (Txt.lower (flNow f word i))).isSome
noncomputable def flN (f : Str → Str) (word tag : Str) (its : List (Str × Str)) : Nat := ((List.range word.length).find? (flStop f word tag its)).getD word.length
noncomputable def cnt (c : Nat) : Nat → Nat
  | 0 => c
  | _ + 1 => c + 1
noncomputable def flWord (f : Str → Str) (st : List (Str × Str) × Nat) (word : Str) : List (Str × Str) × Nat := (flIt f word (tagS st.2) st.1 (flN f word (tagS st.2) st.1), cnt st.2 (flN f word (tagS st.2) st.1))
noncomputable def flAt (f : Str → Str) (words : List Str) (i : Nat) : List (Str × Str) × Nat := (words.take i).foldl (flWord f) ([], 0)
theorem flAt_succ {f : Str → Str} {words : List Str} {i : Nat} {x : Str} (e : words[i]? = some x) : flAt f words (i + 1) = flWord f (flAt f words i) x := by
  unfold flAt
  rw [List.take_add_one, e]; simp
theorem flIt_succ (f : Str → Str) (word tag : Str) (its : List (Str × Str)) (i : Nat) : flIt f word tag its (i + 1) = flIt f word tag its i ++ [(flNow f word i, tag)] := by
  unfold flIt
  rw [List.range_succ, List.map_append, List.append_assoc]; rfl
theorem flIt_len (f : Str → Str) (word tag : Str) (its : List (Str × Str)) (i : Nat) : (flIt f word tag its i).length = its.length + i := by simp [flIt]
theorem flN_at {f : Str → Str} {word tag : Str} {its : List (Str × Str)} {i : Nat} (hi : i < word.length) (h : ∀ j, j < i → flStop f word tag its j = false) (hs : flStop f word tag its i = true) : flN f word tag its = i := by
  unfold flN
  have : (List.range word.length).find? (flStop f word tag its) = some i := by
    rw [List.find?_range_eq_some]
    exact ⟨hs, by simpa using hi, fun j hj => by simpa using h j hj⟩
  rw [this]; rfl
theorem flN_end {f : Str → Str} {word tag : Str} {its : List (Str × Str)} (h : ∀ j, j < word.length → flStop f word tag its j = false) : flN f word tag its = word.length := by
  unfold flN
  have : (List.range word.length).find? (flStop f word tag its) = none := by
    rw [List.find?_range_eq_none]
    exact fun j hj => by simpa using h j hj
  rw [this]; rfl
theorem flN_le (f : Str → Str) (word tag : Str) (its : List (Str × Str)) : flN f word tag its ≤ word.length := by
  unfold flN
  cases q : (List.range word.length).find? (flStop f word tag its) with
  | none => exact Nat.le_refl _
  | some i =>
    have := List.mem_of_find?_eq_some q
    exact Nat.le_of_lt (List.mem_range.mp this)
/-- all that is small and clean -/
structure FiledOk (words ks vs : List Str) : Prop where
  ex : ∃ good : Str → Prop, (∀ x ∈ words, good x) ∧ (∀ x, good x → Clean x ∧ Clean (Txt.lower x) ∧ x.length ≤ 6 ∧ (Txt.lower x).cps.size ≤ 1000) ∧
    (∀ x, good x → ∃ y, (ks.zip vs).lookup (Txt.lower x) = some y ∧ good y ∧ good (Txt.upper y))
  many : words.length ≤ 100
theorem tag_fine : ∀ c : Nat, c < 200 → ((tagS c).cps.toList.all fun x => decide (31 < x ∧ x < 127)) = true ∧ (tagS c).length ≤ 1000 := by decide +kernel
theorem tag_clean {c : Nat} (h : c < 200) : Clean (tagS c) := fun x hx => by simpa using List.all_eq_true.mp (tag_fine c h).1 x hx
theorem lookup_map {ks : List Str} {x y : Str} : ∀ {ks vs : List Str}, (ks.zip vs).lookup x = some y → (ks.zip (vs.map D.str)).lookup x = some (.str y)
  | [], _, e => by cases e
  | _ :: _, [], e => by cases e
  | k :: ks, v :: vs, e => by
    rw [List.map_cons, List.zip_cons_cons, List.lookup_cons]
    rw [List.zip_cons_cons, List.lookup_cons] at e
    cases q : x == k with
    | true => rw [q] at e; cases e; rfl
    | false => rw [q] at e; exact lookup_map (ks := ks) e
structure FlInv (good : Str → Prop) (i : Nat) (st : List (Str × Str) × Nat) : Prop where
  len : st.1.length ≤ 6 * i
  cnt : st.2 ≤ i
  keys : ∀ p ∈ st.1, good p.1
section
variable {w : World} {B₀ : Heap} {mg mb : Str → Option Value} {A : Around} {mu : List Addr}
theorem filed_ok {K : Frag} (B : Base B₀ mg mb) (N : Nms mg mb) (X : Fls K B₀ mg mb) (Xd : Def B₀ 264 fdFiled (bodyOf (topStmt 24)) ["words", "after"]) {words ks vs : List Str} (O : FiledOk words ks vs) (hh : A.handled = none) (hd : A.depth + 60 < recursionLimit) {s : Shared} {E : Value → Shared → Prop} {us : List Value}
    (g : Sub B₀ s.heap) (low : Low mu s.heap) (hmu : ∀ b ∈ mu, B₀.get? b = none) (r : Rps (Hid mu s.heap) us [strL words, .dct theProg w ks (vs.map .str)]) :
    wpAny (model theProg w) A (call (.ref 264) us) (fun v s' => Rp (Hid mu s'.heap) v (.lst ((flAt (aft ks vs) words words.length).1.map pairD)) ∧ Kp s s') E s := by
  refine call_st B Xd (by omega) g low r (by rw [r.length]; rfl) ?_ fun s₁ S E => ?_
  · replace r := rps_cons r; obtain ⟨_, _, rfl, r1, r2⟩ := r
    replace r2 := rps_cons r2; obtain ⟨_, _, rfl, r2, r3⟩ := r2
    (first | obtain ⟨_, rfl⟩ := rp_int r3 | obtain ⟨_, rfl⟩ := rp_str r3 | obtain rfl := rp_raw r3 | obtain rfl := rps_nil r3 | cases r3); rfl
  have hA : (A.deeper (callEnvC fdFiled s.heap.objs.size 264)).handled = none := hh
  have hdep : (A.deeper (callEnvC fdFiled s.heap.objs.size 264)).depth + 40 < recursionLimit := by show A.depth + 1 + 40 < _; omega
  have hbM : ∀ b ∈ frameAt fdFiled s.heap.objs.size ++ mu, B₀.get? b = none := fun b hm => by
    rcases List.mem_append.mp hm with hm | hm
    · cases z : B₀.get? b with
      | none => rfl
      | some o => have := g _ _ z; rw [frame_fresh fdFiled s.heap b hm] at this; cases this
    · exact hmu b hm
  generalize hL : s.heap.objs.size = L at *
  obtain ⟨⟨good, gw, gc, gs⟩, many⟩ := O
  let f := aft ks vs
  have fe : ∀ x, good x → (ks.zip vs).lookup (Txt.lower x) = some (f (Txt.lower x)) ∧ good (f (Txt.lower x)) ∧ good (Txt.upper (f (Txt.lower x))) := fun x hx => by
    obtain ⟨y, e, h1, h2⟩ := gs x hx
    have : f (Txt.lower x) = y := by show ((ks.zip vs).lookup (Txt.lower x)).getD _ = y; rw [e]; rfl
    rw [this]; exact ⟨e, h1, h2⟩
  have nowG : ∀ x, good x → ∀ i, good (flNow f x i) := fun x hx i => by
    induction i with
    | zero => exact hx
    | succ i ih =>
      have := fe _ ih
      show good (if i % 2 = 0 then _ else _)
      split
      · exact this.2.2
      · exact this.2.1
  have inv : ∀ i, FlInv good i (flAt f words i) := fun i => by
    induction i with
    | zero => exact ⟨by simp [flAt], by simp [flAt], by simp [flAt]⟩
    | succ i ih =>
      cases e : words[i]? with
      | none =>
        have : flAt f words (i + 1) = flAt f words i := by unfold flAt; rw [List.take_add_one, e]; simp
        rw [this]
        exact ⟨by have := ih.len; omega, by have := ih.cnt; omega, ih.keys⟩
      | some x =>
        have hx := gw x (List.mem_of_getElem? e)
        rw [flAt_succ e]
        have hn := flN_le f x (tagS (flAt f words i).2) (flAt f words i).1
        have h6 := (gc x hx).2.2.1
        refine ⟨?_, ?_, fun p hp => ?_⟩
        · show (flIt _ _ _ _ _).length ≤ _
          rw [flIt_len]; have := ih.len; omega
        · show cnt _ _ ≤ _
          have := ih.cnt
          cases flN f x (tagS (flAt f words i).2) (flAt f words i).1 <;> simp only [cnt] <;> omega
        · rcases List.mem_append.mp hp with hp | hp
          · exact ih.keys p hp
          · obtain ⟨j, _, rfl⟩ := List.mem_map.mp hp
            exact nowG x hx j
  show wpAny _ _ (execs (_ :: _) _) _ _ _
  refine x_next ?_
  refine s_book B X S hbM hA hdep (.inl ⟨rfl, rfl⟩) fun B₁ x l s₂ sub01 H hB1 hl S₂ => ⟨rfl, ?_⟩
  have X₁ := X.mono sub01
  have B1 := B.mono sub01
  refine x_next ?_
  refine s_assign (d := .int ((0 : Nat) : Int)) S₂ Ev.cInt (.inl ⟨rfl, rfl⟩) fun s₃ S₃ => ⟨rfl, ?_⟩
  refine x_next ?_
  let R : Nat → List (Str × D) := fun i => [("count", .int ((flAt f words i).2 : Int)), ("book", .raw (.ref x)), ("words", strL words), ("after", .dct theProg w ks (vs.map .str))]
  let W : Nat → List (Addr × List D) := fun i => [(l, (flAt f words i).1.map pairD)]
  refine s_for0 (ds := words.map .str) R W S₃ (It.list hA (Ev.name rfl) (sz (by simp; omega))) (lk_refl _) rfl (fun i => rfl) (fun i d MU s₀ md s₄ E v ed hM S₄ rv => ?_) fun s₅ S₅ => ⟨rfl, ?_⟩
  · rw [List.getElem?_map] at ed
    cases ew : words[i]? with
    | none => rw [ew] at ed; cases ed
    | some word =>
      rw [ew] at ed
      cases ed
      have hg := gw word (List.mem_of_getElem? ew)
      have hi : i < words.length := (List.getElem?_eq_some_iff.mp ew).1
      have iv := inv i
      have l6 := (gc word hg).2.2.1
      have l6' : word.length ≤ 6 := l6
      refine S₄.assign (.inl ⟨rfl, rfl⟩) rv fun s₅ S₅ => ?_
      refine x_next ?_
      refine s_assign (d := .str word) S₅ (Ev.name rfl) (.inl ⟨rfl, rfl⟩) fun s₆ S₆ => ⟨rfl, ?_⟩
      refine x_next ?_
      have hc := iv.cnt
      refine s_assign (d := .str (tagS (flAt f words i).2)) S₆ (Ev.strI B1 X.hf.st (Ev.name rfl) (by omega)) (.inl ⟨rfl, rfl⟩) fun s₇ S₇ => ⟨rfl, ?_⟩
      refine x_next ?_
      have enext : flAt f words (i + 1) = flWord f (flAt f words i) word := flAt_succ ew
      have hR : ∀ j, R j = ([("count", .int ((flAt f words j).2 : Int)), ("book", .raw (.ref x)), ("words", strL words), ("after", .dct theProg w ks (vs.map .str))] : List (Str × D)) := fun _ => rfl
      have hW : ∀ j, W j = [(l, (flAt f words j).1.map pairD)] := fun _ => rfl
      simp only [hR, hW] at S₇ ⊢
      rw [enext]
      generalize flAt f words i = st at *
      obtain ⟨its, c⟩ := st
      dsimp only at *
      have tg := tag_clean (c := c) (by omega)
      have tl := (tag_fine c (by omega)).2
      have itl := iv.len
      have keys := iv.keys
      dsimp only at itl keys
      let T : Nat → List (Str × D) := fun j => [("now", .str (flNow f word j)), ("count", .int (cnt c j : Int)), ("tag", .str (tagS c)), ("word", .str word), ("book", .raw (.ref x)), ("words", strL words), ("after", .dct theProg w ks (vs.map .str))]
      refine s_forP (ds := rng 0 word.length) (fun j => ∀ k, k < j → flStop f word (tagS c) its k = false) T (fun j => [(l, (flIt f word (tagS c) its j).map pairD)])
        (fun ρ' ω' => ρ' = ([("count", .int (cnt c (flN f word (tagS c) its) : Int)), ("book", .raw (.ref x)), ("words", strL words), ("after", .dct theProg w ks (vs.map .str))] : List (Str × D)) ∧ ω' = [(l, (flIt f word (tagS c) its (flN f word (tagS c) its)).map pairD)]) (fun _ _ => False) S₇
        (It.range1 B1 hA N.range (Ev.lenS B1 (Ev.name rfl) (by omega) N.len) (by omega) (by omega) (sz (by omega)))
        (lk_one rfl (lk_one rfl (lk_one rfl (lk_one rfl (lk_one rfl (lk_one rfl (lk_one rfl lk_nil))))))) (fun k hk => absurd hk (Nat.not_lt_zero _)) (by simp [flIt]) (fun _ => rfl) (fun ρ' ω' h => by rw [h.2]; rfl) (fun _ _ h => h.elim)
        (fun j d MU' s₀' md' s₈ E v ed hP hM' S₈ rv => ?_) (fun s₈ hP S₈ => ⟨rfl, ?_⟩) (fun ρ' ω' s₈ h S₈ => ⟨rfl, ?_⟩) (fun _ _ _ _ h => h.elim)
      · have hj : j < word.length := by
          have := (List.getElem?_eq_some_iff.mp ed).1
          simpa [rng] using this
        have ed' : d = .int (j : Int) := by
          simp [rng, hj] at ed; exact ed.symm
        subst ed'
        have gn := nowG word hg j
        obtain ⟨gc1, gc2, gc3, gc4⟩ := gc _ gn
        obtain ⟨fe1, fe2, fe3⟩ := fe _ gn
        have kl : ∀ p ∈ flIt f word (tagS c) its j, p.1.length ≤ 1000 := fun p hp => by
          rcases List.mem_append.mp hp with hp | hp
          · have := (gc _ (keys p hp)).2.2.1; omega
          · obtain ⟨k, _, rfl⟩ := List.mem_map.mp hp
            have := (gc _ (nowG word hg k)).2.2.1
            show (flNow f word k).length ≤ _
            omega
        have ll : (flIt f word (tagS c) its j).length ≤ 1000 := by rw [flIt_len]; omega
        refine S₈.assign (.inl ⟨rfl, rfl⟩) rv fun s₉ S₉ => ?_
        refine wpAny_execs_cons (s_ifAt S₉ (fun E => get_test (E := E) B1 X₁ H S₉ (.head _) (by omega) kl (by omega) gc2 (by omega) hA (by omega) (Ev.name rfl) (Ev.name rfl)) fun s₁₀ S₁₀ => ?_)
        cases hst : flStop f word (tagS c) its j with
        | true =>
          have hst' : (getP (flIt f word (tagS c) its j) (Txt.lower (flNow f word j))).isSome = true := hst
          rw [hst']
          show wpAny _ _ (execs (_ :: _) _) _ _ _
          refine wpAny_execs_cons (wpAny_Break ⟨_, _, ⟨rfl, rfl⟩, ?_⟩)
          have en := flN_at hj hP hst
          rw [en]
          exact S₁₀.weak (lk_one rfl (lk_one rfl (lk_one rfl (lk_one rfl lk_nil))))
        | false =>
          have hst' : (getP (flIt f word (tagS c) its j) (Txt.lower (flNow f word j))).isSome = false := hst
          rw [hst']
          show wpAny _ _ (execs [] _) _ _ _
          refine wpAny_execs_nil ?_
          show wpAny _ _ (execs (_ :: _) _) _ _ _
          refine wpAny_execs_cons (s_add (ω₁ := []) B1 X₁ H S₁₀ (by rw [List.length_map]; omega) gc1 tg (by omega) tl hA (by omega) (Ev.name rfl) (Ev.name rfl) (Ev.name rfl) fun s₁₁ S₁₁ => ?_)
          show wpAny _ _ (execs (_ :: _) _) _ _ _
          refine wpAny_execs_cons (s_assign (d := .int ((c : Int) + 1)) S₁₁ (Ev.add (Ev.intT B1 X₁.int (Ev.name rfl) (by omega)) Ev.cInt) (.inl ⟨rfl, rfl⟩) fun s₁₂ S₁₂ => ?_)
          show wpAny _ _ (execs (_ :: _) _) _ _ _
          refine wpAny_execs_cons (s_assign (d := .str (f (Txt.lower (flNow f word j)))) S₁₂ (Ev.didx (Ev.name rfl) (Ev.lower (Ev.name rfl) (by omega)) (lookup_map (ks := ks) fe1)) (.inl ⟨rfl, rfl⟩) fun s₁₃ S₁₃ => ?_)
          show wpAny _ _ (execs (_ :: _) _) _ _ _
          have hmod : (((j : Int)).fmod 2 == 0) = decide (j % 2 = 0) := by
            rw [Int.fmod_eq_emod_of_nonneg _ (by decide)]
            by_cases q : j % 2 = 0
            · rw [decide_eq_true q]; simp; omega
            · rw [decide_eq_false q]; simp; omega
          refine wpAny_execs_cons (s_assign (d := .str (flNow f word (j + 1))) S₁₃ (Ev.ite (Ts.eq (Ev.mod (Ev.name rfl) Ev.cInt (by decide)) Ev.cInt) (fun hb => ?_) (fun hb => ?_)) (.inl ⟨rfl, rfl⟩) fun s₁₄ S₁₄ => ?_)
          · rw [hmod] at hb
            have q : j % 2 = 0 := of_decide_eq_true hb
            have e : flNow f word (j + 1) = Txt.upper (f (Txt.lower (flNow f word j))) := if_pos q
            rw [e]
            exact Ev.upper (Ev.name rfl) (by have := (gc _ fe2).2.2.1; omega)
          · rw [hmod] at hb
            have q : ¬ j % 2 = 0 := of_decide_eq_false hb
            have e : flNow f word (j + 1) = f (Txt.lower (flNow f word j)) := if_neg q
            rw [e]
            exact Ev.name rfl
          refine wpAny_execs_nil ⟨fun k hk => ?_, ?_⟩
          · rcases Nat.lt_or_ge k j with q | q
            · exact hP k q
            · have : k = j := by omega
              subst this; exact hst
          · have q := S₁₄.weak (ρ' := T (j + 1)) (lk_cons (lk_one rfl (lk_one rfl (lk_one rfl (lk_one rfl (lk_one rfl (lk_one rfl lk_nil)))))))
            rw [flIt_succ, List.map_append]
            exact q
      · have hl' : (rng 0 word.length).length = word.length := by simp [rng]
        rw [hl'] at hP S₈
        have en := flN_end hP
        refine wpAny_execs_nil ⟨rfl, ?_⟩
        unfold flWord
        dsimp only
        rw [en]
        exact S₈.weak (lk_one rfl (lk_one rfl (lk_one rfl (lk_one rfl lk_nil))))
      · refine wpAny_execs_nil ⟨rfl, ?_⟩
        unfold flWord
        dsimp only
        rw [← h.1, ← h.2]
        exact S₈
  · rw [List.length_map] at S₅
    have iv := inv words.length
    obtain ⟨S₆, rl⟩ := S₅.freeze0 hl
    have S₇ := S₆.rebase
    have sub12 := S₆.baseSub fun b hm => hB1 b (.tail _ hm)
    have hB2 : ∀ b ∈ frameAt fdFiled L ++ mu, (Hid (frameAt fdFiled L ++ mu) s₅.heap).get? b = none := fun b hm => hideAll_none _ hm
    have il := iv.len
    refine wpAny_execs_cons (s_return S₇ (Ev.items (B1.mono sub12) (X₁.mono sub12) (H.mono sub12) rl hB2 (by omega) hA (by omega) (Ev.name rfl)) fun v s₈ rv S₈ => S₈.done rv)
end
end Mine
end
end
section
set_option Elab.async false
noncomputable section
open PySem PySem.W PySem.Calls PyProof.Rows
set_option maxRecDepth 100000
set_option linter.unusedVariables false
namespace Mine
noncomputable def bitL (a : Nat) : Nat := if a = 0 then 0 else a.log2 + 1
theorem intBits_nat (a : Nat) : Builtin.Int.intBits (a : Int) = bitL a := by
  unfold Builtin.Int.intBits bitL
  by_cases h : a = 0
  · subst h; rfl
  · rw [if_neg h, if_neg (by simp; omega)]; rfl
theorem lt_bitL (a : Nat) : a < 2 ^ bitL a := by
  unfold bitL
  split
  · rename_i h; subst h; decide
  · exact Nat.lt_log2_self
theorem bitL_le {a k : Nat} (h : a < 2 ^ k) : bitL a ≤ k := by
  unfold bitL
  split
  · exact Nat.zero_le _
  · rename_i q; exact (Nat.log2_lt q).mpr h
theorem bitL_pos {a : Nat} (h : 0 < a) : 0 < bitL a := by
  unfold bitL; rw [if_neg (by omega)]; omega
noncomputable def dig (n a i : Nat) : Nat := a / 2 ^ (n * i) % 2 ^ n
noncomputable def ndig (n a : Nat) : Nat := (bitL a + n - 1) / n
noncomputable def digs (n a : Nat) : List Nat := (List.range (ndig n a)).map (dig n a)
noncomputable def dval (n : Nat) : List Nat → Nat
  | [] => 0
  | d :: r => d + 2 ^ n * dval n r
theorem dig_lt (n a i : Nat) : dig n a i < 2 ^ n := Nat.mod_lt _ (Nat.two_pow_pos n)
theorem dval_range (n : Nat) : ∀ (k a : Nat), dval n ((List.range k).map (dig n a)) = a % 2 ^ (n * k)
  | 0, a => by simp [dval, Nat.mod_one]
  | k + 1, a => by
    have ih := dval_range n k (a / 2 ^ n)
    rw [List.range_succ_eq_map, List.map_cons, List.map_map]
    have e : (dig n a ∘ Nat.succ) = dig n (a / 2 ^ n) := by
      funext i
      show a / 2 ^ (n * (i + 1)) % 2 ^ n = a / 2 ^ n / 2 ^ (n * i) % 2 ^ n
      rw [Nat.div_div_eq_div_mul, ← Nat.pow_add, Nat.mul_add, Nat.mul_one, Nat.add_comm n]
    rw [e]
    show dig n a 0 + 2 ^ n * dval n _ = _
    rw [ih, Nat.mul_add, Nat.mul_one, Nat.add_comm (n * k) n, Nat.pow_add, Nat.mod_mul]
    unfold dig
    simp
theorem lt_ndig {n : Nat} (hn : 0 < n) (a : Nat) : a < 2 ^ (n * ndig n a) := by
  refine Nat.lt_of_lt_of_le (lt_bitL a) (Nat.pow_le_pow_right (by decide) ?_)
  unfold ndig
  have h1 := Nat.div_add_mod (bitL a + n - 1) n
  have h2 := Nat.mod_lt (bitL a + n - 1) hn
  omega
theorem dval_digs {n : Nat} (hn : 0 < n) (a : Nat) : dval n (digs n a) = a := by
  unfold digs
  rw [dval_range, Nat.mod_eq_of_lt (lt_ndig hn a)]
theorem dval_append (n : Nat) : ∀ (l r : List Nat), dval n (l ++ r) = dval n l + 2 ^ (n * l.length) * dval n r
  | [], r => by simp [dval]
  | d :: l, r => by
    rw [List.cons_append]
    show d + 2 ^ n * dval n (l ++ r) = d + 2 ^ n * dval n l + 2 ^ (n * (l.length + 1)) * dval n r
    rw [dval_append n l r, Nat.mul_add (2 ^ n), Nat.mul_add n, Nat.mul_one, Nat.add_comm (n * l.length) n, Nat.pow_add, Nat.mul_assoc, Nat.add_assoc]
theorem dig_low {n x k i : Nat} (hi : i < k) : dig n (x % 2 ^ (n * k)) i = dig n x i := by
  unfold dig
  have e : n * k = n * i + n * (k - i) := by rw [← Nat.mul_add]; congr 1; omega
  rw [e, Nat.pow_add, Nat.mod_mul_right_div_self, Nat.mod_mod_of_dvd]
  exact Nat.pow_dvd_pow 2 (Nat.le_mul_of_pos_right n (by omega))
theorem dig_high (n x k i : Nat) : dig n (x / 2 ^ (n * k)) i = dig n x (k + i) := by
  unfold dig
  rw [Nat.div_div_eq_div_mul, ← Nat.pow_add, Nat.mul_add]
/-- k digits of x laid from L on -/
noncomputable def dset (n : Nat) (ys : List D) (L k x : Nat) : List D := (List.range ys.length).map fun i => if L ≤ i ∧ i < L + k then .int (dig n x (i - L) : Int) else ys.getD i .none
theorem dset_len (n : Nat) (ys : List D) (L k x : Nat) : (dset n ys L k x).length = ys.length := by simp [dset]
theorem dset_one {n : Nat} {ys : List D} {L x : Nat} (hx : x < 2 ^ n) (hL : L < ys.length) : ys.set L (.int (x : Int)) = dset n ys L 1 x := by
  refine List.ext_getElem (by simp [dset]) fun i h1 h2 => ?_
  rw [List.length_set] at h1
  simp only [dset, List.getElem_map, List.getElem_range, List.getElem_set]
  by_cases q : L = i
  · subst q
    have : dig n x 0 = x := by unfold dig; simp [Nat.mod_eq_of_lt hx]
    simp [this]
  · have : ¬ (L ≤ i ∧ i < L + 1) := by omega
    simp [q, this, List.getD, h1]
theorem dset_two (n : Nat) (ys : List D) (L k1 k2 x : Nat) : dset n (dset n ys L k1 (x % 2 ^ (n * k1))) (L + k1) k2 (x / 2 ^ (n * k1)) = dset n ys L (k1 + k2) x := by
  refine List.ext_getElem (by simp [dset]) fun i h1 h2 => ?_
  have hi : i < ys.length := by simpa [dset] using h2
  simp only [dset, List.getElem_map, List.getElem_range, List.length_map, List.length_range]
  by_cases c1 : L ≤ i ∧ i < L + k1
  · have c2 : ¬ (L + k1 ≤ i ∧ i < L + k1 + k2) := by omega
    have c3 : L ≤ i ∧ i < L + (k1 + k2) := by omega
    rw [if_neg c2, if_pos c3]
    simp [List.getD, hi, c1]
    rw [dig_low (by omega)]
  · by_cases c2 : L + k1 ≤ i ∧ i < L + k1 + k2
    · have c3 : L ≤ i ∧ i < L + (k1 + k2) := by omega
      rw [if_pos c2, if_pos c3, dig_high]
      have : k1 + (i - (L + k1)) = i - L := by omega
      rw [this]
    · have c3 : ¬ (L ≤ i ∧ i < L + (k1 + k2)) := by omega
      rw [if_neg c2, if_neg c3]
      have c1' : ¬ (L ≤ i ∧ i < L + k1) := c1
      simp only [List.getD, List.getElem?_map, List.getElem?_range hi, Option.map_some, Option.getD_some, if_neg c1']
theorem dset_all (n k a : Nat) : dset n (List.replicate k (.int 0)) 0 k a = (List.range k).map fun i => .int (dig n a i : Int) := by
  refine List.ext_getElem (by simp [dset]) fun i h1 h2 => ?_
  have hi : i < k := by simpa using h2
  simp [dset, hi]
theorem and_low (x k : Nat) : x &&& (x / 2 ^ k * 2 ^ k) = x / 2 ^ k * 2 ^ k := by
  rw [← Nat.shiftRight_eq_div_pow, ← Nat.shiftLeft_eq]
  refine Nat.eq_of_testBit_eq fun i => ?_
  rw [Nat.testBit_and, Nat.testBit_shiftLeft, Nat.testBit_shiftRight]
  by_cases h : k ≤ i
  · rw [Nat.add_sub_cancel' h]; simp [h]
  · simp [h]
theorem or_low (x k : Nat) : x ||| (x / 2 ^ k * 2 ^ k) = x := by
  rw [← Nat.shiftRight_eq_div_pow, ← Nat.shiftLeft_eq]
  refine Nat.eq_of_testBit_eq fun i => ?_
  rw [Nat.testBit_or, Nat.testBit_shiftLeft, Nat.testBit_shiftRight]
  by_cases h : k ≤ i
  · rw [Nat.add_sub_cancel' h]; simp
  · simp [h]
theorem bitOr_nat (x y : Nat) : Builtin.bitOr (x : Int) (y : Int) = ((x ||| y : Nat) : Int) := by
  unfold Builtin.bitOr Builtin.bitAnd
  have h : ∀ z : Nat, decide (0 ≤ Builtin.bitNot (z : Int)) = false := fun z => decide_eq_false (by unfold Builtin.bitNot; omega)
  rw [h x, h y]
  dsimp only
  have e : ∀ z : Nat, (Builtin.bitNot (Builtin.bitNot (z : Int))).toNat = z := fun z => by unfold Builtin.bitNot; omega
  rw [e x, e y]
  unfold Builtin.bitNot; omega
theorem xor_low (x k : Nat) : Builtin.bitXor (x : Int) ((x / 2 ^ k * 2 ^ k : Nat) : Int) = ((x % 2 ^ k : Nat) : Int) := by
  have ha : Builtin.bitAnd (x : Int) ((x / 2 ^ k * 2 ^ k : Nat) : Int) = ((x / 2 ^ k * 2 ^ k : Nat) : Int) := by
    unfold Builtin.bitAnd
    rw [decide_eq_true (Int.natCast_nonneg x), decide_eq_true (Int.natCast_nonneg _)]
    dsimp only
    rw [Int.toNat_natCast, Int.toNat_natCast, and_low]
  unfold Builtin.bitXor
  rw [ha, bitOr_nat, or_low]
  have := Nat.div_add_mod x (2 ^ k)
  have e := Nat.mul_comm (2 ^ k) (x / 2 ^ k)
  omega
/-- one turn of the long division -/
noncomputable def dpStep (n b : Nat) (st : List Nat × Nat) (d : Nat) : List Nat × Nat := (st.1 ++ [(st.2 * 2 ^ n + d) / b], (st.2 * 2 ^ n + d) % b)
noncomputable def dpAt (n b : Nat) (ds : List Nat) (i : Nat) : List Nat × Nat := (ds.take i).foldl (dpStep n b) ([], 0)
theorem dpAt_succ {n b : Nat} {ds : List Nat} {i d : Nat} (e : ds[i]? = some d) : dpAt n b ds (i + 1) = dpStep n b (dpAt n b ds i) d := by
  unfold dpAt
  rw [List.take_add_one, e]; simp
theorem dp_fold (n b : Nat) (hb : 0 < b) : ∀ (ds : List Nat) (st : List Nat × Nat), st.2 < b →
    (ds.foldl (dpStep n b) st).2 < b ∧ dval n (ds.foldl (dpStep n b) st).1.reverse * b + (ds.foldl (dpStep n b) st).2 = (dval n st.1.reverse * b + st.2) * 2 ^ (n * ds.length) + dval n ds.reverse
  | [], st, h => by simp [dval, h]
  | d :: ds, st, h => by
    rw [List.foldl_cons]
    have hr : (dpStep n b st d).2 < b := Nat.mod_lt _ hb
    obtain ⟨i1, i2⟩ := dp_fold n b hb ds (dpStep n b st d) hr
    refine ⟨i1, ?_⟩
    rw [i2]
    have e1 : dval n (dpStep n b st d).1.reverse * b + (dpStep n b st d).2 = (dval n st.1.reverse * b + st.2) * 2 ^ n + d := by
      unfold dpStep
      dsimp only
      rw [List.reverse_append]
      show (((st.2 * 2 ^ n + d) / b + 2 ^ n * dval n st.1.reverse) * b + _ = _)
      have := Nat.div_add_mod (st.2 * 2 ^ n + d) b
      have e : ((st.2 * 2 ^ n + d) / b + 2 ^ n * dval n st.1.reverse) * b = b * ((st.2 * 2 ^ n + d) / b) + dval n st.1.reverse * b * 2 ^ n := by
        rw [Nat.add_mul, Nat.mul_comm ((st.2 * 2 ^ n + d) / b) b, Nat.mul_comm (2 ^ n), Nat.mul_assoc, Nat.mul_comm (2 ^ n) b, ← Nat.mul_assoc]
      rw [e, Nat.add_mul]
      omega
    have e2 : dval n (d :: ds).reverse = dval n ds.reverse + 2 ^ (n * ds.length) * d := by
      rw [List.reverse_cons, dval_append, List.length_reverse]
      simp [dval]
    rw [e1, e2, List.length_cons, Nat.mul_add n, Nat.mul_one, Nat.pow_add, Nat.add_mul, Nat.mul_assoc, Nat.mul_comm (2 ^ n) (2 ^ (n * ds.length)), Nat.mul_comm d]
    omega
theorem dp_div {n b : Nat} (hb : 0 < b) (hn : 0 < n) (a : Nat) : dval n (dpAt n b (digs n a).reverse (digs n a).reverse.length).1.reverse = a / b ∧ (dpAt n b (digs n a).reverse (digs n a).reverse.length).2 = a % b := by
  unfold dpAt
  rw [List.take_length]
  obtain ⟨h1, h2⟩ := dp_fold n b hb (digs n a).reverse ([], 0) hb
  rw [List.reverse_reverse, dval_digs hn] at h2
  generalize (List.foldl (dpStep n b) ([], 0) (digs n a).reverse) = st at *
  simp only [List.reverse_nil, dval, Nat.zero_mul, Nat.zero_add] at h2
  constructor
  · rw [← h2, Nat.mul_comm, Nat.add_comm, Nat.add_mul_div_left _ _ hb, Nat.div_eq_of_lt h1, Nat.zero_add]
  · rw [← h2, Nat.mul_comm, Nat.add_comm, Nat.add_mul_mod_self_left, Nat.mod_eq_of_lt h1]
theorem dp_lt {n b : Nat} (hb : 0 < b) (ds : List Nat) (i : Nat) : (dpAt n b ds i).2 < b := (dp_fold n b hb (ds.take i) ([], 0) hb).1
theorem dp_len {n b : Nat} (ds : List Nat) : ∀ i, (dpAt n b ds i).1.length ≤ i
  | 0 => by simp [dpAt]
  | i + 1 => by
    cases e : ds[i]? with
    | none =>
      have : dpAt n b ds (i + 1) = dpAt n b ds i := by unfold dpAt; rw [List.take_add_one, e]; simp
      rw [this]; have := dp_len (n := n) (b := b) ds i; omega
    | some d =>
      rw [dpAt_succ e]
      have := dp_len (n := n) (b := b) ds i
      simp [dpStep]; omega
end Mine
end
end
section
set_option Elab.async false
noncomputable section
open PySem PySem.W PySem.Calls PyProof.Rows
set_option maxRecDepth 100000
set_option linter.unusedVariables false
set_option maxHeartbeats 1000000
namespace Mine
mutual
theorem Rp.avoid {h h' : Heap} (k : ∀ b o, o.cls ≠ .none → h.get? b = some o → h'.get? b = some o) : ∀ {v : Value} {d : D}, Rp h v d → Rp h' v d
  | _, _, .none => .none
  | _, _, .bool b => .bool b
  | _, _, .int i t => .int i t
  | _, _, .str x t => .str x t
  | _, _, .tup ⟨n, e⟩ r => .tup ⟨n, k _ _ (by intro h; cases h) e⟩ (Rps.avoid k r)
  | _, _, .lst ⟨n, e⟩ r => .lst ⟨n, k _ _ (by intro h; cases h) e⟩ (Rps.avoid k r)
  | _, _, .raw v => .raw v
  | _, _, .nod n e => .nod n (k _ _ (by intro h; cases h) e)
  | _, _, .dct ⟨o, es, ep, ho, q⟩ hl r => .dct ⟨o, es, ep, k _ _ (by rw [q.1.1]; intro h; cases h) ho, q⟩ hl (Rps.avoid k r)
theorem Rps.avoid {h h' : Heap} (k : ∀ b o, o.cls ≠ .none → h.get? b = some o → h'.get? b = some o) : ∀ {vs : List Value} {ds : List D}, Rps h vs ds → Rps h' vs ds
  | _, _, .nil => .nil
  | _, _, .cons a b => .cons (Rp.avoid k a) (Rps.avoid k b)
end
section
variable {prog : Program} {w : World} {B₀ B₁ : Heap} {A : Around} {env : Env} {MU mu md T : List Addr} {ρ : List (Str × D)} {ω : List (Addr × List D)} {s₀ s s' : Shared} {E : Value → Shared → Prop} {mg mb : Str → Option Value} {pos : Pos}
/-- tables beside the frame turn; the base is laid anew -/
theorem St.turnT (S : St B₀ s₀ md env MU ρ ω s) (K : KB T s s') (hT : ∀ c ∈ T, c ∉ MU) (hc : ∀ c ∈ T, ∀ o, s.heap.get? c = some o → o.cls = .none) : St (Hid MU s'.heap) s₀ (T ++ md) env MU ρ ω s' := by
  have no : ∀ b, b ∈ MU → (Hid MU s'.heap).get? b = none := fun b hb => hideAll_none MU hb
  have F := S.f
  have ne : ∀ b, b ∈ MU → b ∉ T := fun b hb q => hT b q hb
  have cell : ∀ n a v, env.cells.lookup n = some a → s.heap.IsCell a v → s'.heap.IsCell a v := fun n a v e ⟨o, eo, r⟩ => ⟨o, K.sub a o (ne a (F.wf.cel n a e).1) eo, r⟩
  have ns : ∀ m, s.heap.Ns env.locals m → s'.heap.Ns env.locals m := fun m n => n.at' fun o e => K.sub _ o (ne _ F.wf.loc.1) e
  have av : ∀ b o, o.cls ≠ .none → (Hid MU s.heap).get? b = some o → (Hid MU s'.heap).get? b = some o := fun b o hn e =>
    let ⟨n, e'⟩ := hid_get e
    hid_of n (K.sub b o (fun q => hn (hc b q o e')) e')
  refine ⟨⟨⟨hid_sub, F.k, F.gl, F.bl, fun b hb => let ⟨o, e⟩ := F.low b hb; ⟨o, K.sub b o (ne b hb) e⟩, ⟨⟨F.wf.loc.1, no _ F.wf.loc.1⟩, fun n c e => ⟨(F.wf.cel n c e).1, no _ (F.wf.cel n c e).1, (F.wf.cel n c e).2.2⟩, F.wf.inj⟩, let ⟨m, n⟩ := F.ns; ⟨m, ns m n⟩, fun n c e => let ⟨v, i⟩ := F.cl n c e; ⟨v, cell n c v e i⟩, fun x d e => ?_⟩, fun p hp => ?_, S.fo.d⟩, ?_, S.fl.imp (fun h => List.mem_append_right _ h) id, fun n c k e => (S.fc n c k e).imp (fun h => List.mem_append_right _ h) id, fun p hp => (S.fw p hp).imp (fun h => List.mem_append_right _ h) id⟩
  · obtain ⟨v, p, r⟩ := F.var x d e
    refine ⟨v, ?_, r.avoid av⟩
    unfold VarAt at *
    split at p
    · obtain ⟨m, n, em⟩ := p; exact ⟨m, ns m n, em⟩
    · obtain ⟨c, ec, i⟩ := p; exact ⟨c, ec, cell x c _ ec i⟩
    · obtain ⟨c, ec, i⟩ := p; exact ⟨c, ec, cell x c _ ec i⟩
    · exact p
  · obtain ⟨⟨vs, pl, r⟩, sd⟩ := S.fo.o p hp
    exact ⟨⟨vs, pl.at fun o e => K.sub _ _ (ne _ sd.mem) e, r.avoid av⟩, ⟨sd.mem, no _ sd.mem, sd.loc, sd.cel⟩⟩
  · exact (S.k.mono fun b hb => List.mem_append_right _ hb).trans (K.mono fun b hb => List.mem_append_left _ hb)
theorem St.turnB (S : St B₀ s₀ md env MU ρ ω s) (K : KB T s s') (hb : ∀ b ∈ MU, B₀.get? b = none) : SubB T B₀ (Hid MU s'.heap) := fun b o n e =>
  hid_of (fun q => by rw [hb b q] at e; cases e) (K.sub b o n (S.f.g _ _ e))
theorem Base.monoB (B : Base B₀ mg mb) (k : SubB T B₀ B₁) (h1 : mainGlobals ∉ T) (h2 : builtinsNs ∉ T) (h3 : cStatics ∉ T) : Base B₁ mg mb :=
  ⟨B.g.at' fun o e => k _ o h1 e, B.b.at' fun o e => k _ o h2 e, let ⟨mc, n, e⟩ := B.nolimit; ⟨mc, n.at' fun o e => k _ o h3 e, e⟩, let ⟨mc, n, e⟩ := B.nodigits; ⟨mc, n.at' fun o e => k _ o h3 e, e⟩, B.builtins⟩
theorem Def.monoB {a : Addr} {fd : FuncData} {body : List Stmt} {names : List Str} (X : Def B₀ a fd body names) (k : SubB T B₀ B₁) (ha : a ∉ T) (hc : ∀ c, fd.code = .ref c → c ∉ T) : Def B₁ a fd body names :=
  ⟨let ⟨oc, od, sl, e⟩ := X.obj; ⟨oc, od, sl, k _ _ ha e⟩, let ⟨c, o, vs, t, e1, e2, e3⟩ := X.code; ⟨c, o, vs, t, e1, k _ _ (hc c e1) e2, e3⟩, X.body, X.clo, X.gl, X.bl, X.co, X.gen, X.kind, X.nodup, X.kinds, X.cells⟩
-- expressions
theorem Ev.bitLen {o : Expr} {apos : Pos} {a : Int} (ho : Ev prog w B₀ A env MU ρ o (.int a)) (hbase : attributeBase o "bit_length" env (eval o env) = eval o env := by rfl) (hline : (apos.endLine == pos.line) = true := by rfl) :
    Ev prog w B₀ A env MU ρ (.Call (.Attribute o "bit_length" apos) [] [] pos) (.int (Builtin.Int.intBits a : Int)) := fun s E F =>
  meth_of (T := "int") (id := "int.bit_length") (ds := []) PySem.F.plainAttrs_int PyProof.Rows.slot_int_bit_length PyProof.Rows.type_int_bit_length F ho .nil (fun v s' rv K => by (first | obtain ⟨_, rfl⟩ := rp_int rv | obtain ⟨_, rfl⟩ := rp_str rv | obtain rfl := rp_raw rv | obtain rfl := rps_nil rv | cases rv); exact ⟨typeIs_int _ _ _, fun _ e => nomatch e⟩) (fun v vs s' rv r K => by
    (first | obtain ⟨_, rfl⟩ := rp_int rv | obtain ⟨_, rfl⟩ := rp_str rv | obtain rfl := rp_raw rv | obtain rfl := rps_nil rv | cases rv); (first | obtain ⟨_, rfl⟩ := rp_int r | obtain ⟨_, rfl⟩ := rp_str r | obtain rfl := rp_raw r | obtain rfl := rps_nil r | cases r)
    exact call_int_bit_length ⟨.int _ _, K.trans (Kp.tok s' _)⟩) hbase rfl hline
theorem Ts.int {e : Expr} {a : Int} (he : Ev prog w B₀ A env MU ρ e (.int a)) (hi : ∀ whole, isTrue e env whole = (do let v ← whole; standAt e.pos; holding [v] (truthy v)) := by intro _; rfl) : Ts prog w B₀ A env MU ρ e (a != 0) := fun s E F =>
  wpAny_isTrue_value (wpAny_mono (he s E F) (fun v s' ⟨r, K⟩ => by (first | obtain ⟨_, rfl⟩ := rp_int r | obtain ⟨_, rfl⟩ := rp_str r | obtain rfl := rp_raw r | obtain rfl := rps_nil r | cases r); exact P.truthy_int ⟨rfl, K⟩) fun _ _ x => x) (hi _)
theorem Ts.lstT {e : Expr} {ds : List D} (he : Ev prog w B₀ A env MU ρ e (.lst ds)) (hn : ds.length ≤ 100000) (hi : ∀ whole, isTrue e env whole = (do let v ← whole; standAt e.pos; holding [v] (truthy v)) := by intro _; rfl) : Ts prog w B₀ A env MU ρ e (!ds.isEmpty) := fun s E F =>
  wpAny_isTrue_value (wpAny_mono (he s E F) (fun v s' ⟨r, K⟩ => by
    replace r := rp_lst r; obtain ⟨a, vs, rfl, p, q⟩ := r
    refine wpAny_truthy_list (plist p).isList (by rw [List.size_toArray, q.length]; omega) ?_
    have e : (vs.toArray).isEmpty = ds.isEmpty := by
      have := q.length
      cases vs with
      | nil => cases ds with
        | nil => rfl
        | cons _ _ => cases this
      | cons _ _ => cases ds with
        | nil => cases this
        | cons _ _ => rfl
    rw [e]
    exact ⟨rfl, K.trans (Kp.tok s' _)⟩) fun _ _ x => x) (hi _)
theorem Ev.divmod (B : Base B₀ mg mb) {e e' : Expr} {a b : Int} {np : Pos} (hg : Glb mg mb "divmod" (.builtin "divmod")) (he : Ev prog w B₀ A env MU ρ e (.int a)) (he' : Ev prog w B₀ A env MU ρ e' (.int b)) (hb : b ≠ 0) (hp : Builtin.divisionGoesByPylong a b = false)
    (hs : starEach [e, e'] env = (false, eval e env) :: starEach [e'] env := by rfl) (hs' : starEach [e'] env = [(false, eval e' env)] := by rfl) (hk : env.kindOf "divmod" = some .globalImplicit := by rfl) :
    Ev prog w B₀ A env MU ρ (.Call (.Name "divmod" np) [e, e'] [] pos) (.tup [.int (a.fdiv b), .int (a.fmod b)]) :=
  Ev.call B hg (CW.builtin _) (.cons he hs (.cons he' hs' .nil)) (fun vs s E r F => by
    replace r := rps_cons r; obtain ⟨_, _, rfl, r1, r2⟩ := r
    replace r2 := rps_cons r2; obtain ⟨_, _, rfl, r2, r3⟩ := r2
    (first | obtain ⟨_, rfl⟩ := rp_int r1 | obtain ⟨_, rfl⟩ := rp_str r1 | obtain rfl := rp_raw r1 | obtain rfl := rps_nil r1 | cases r1); (first | obtain ⟨_, rfl⟩ := rp_int r2 | obtain ⟨_, rfl⟩ := rp_str r2 | obtain rfl := rp_raw r2 | obtain rfl := rps_nil r2 | cases r2); (first | obtain ⟨_, rfl⟩ := rp_int r3 | obtain ⟨_, rfl⟩ := rp_str r3 | obtain rfl := rp_raw r3 | obtain rfl := rps_nil r3 | cases r3)
    refine divmod_int hb ?_ (.inl hp)
    have q := newTup (mu := MU) (s := s) (vs := [.int (a.fdiv b) s.toks, .int (a.fmod b) (s.toks + 1)]) F.low (.cons (.int _ _) (.cons (.int _ _) .nil))
    exact ⟨q.1, Kp.mk q.2.sub⟩) hk
theorem It.reversed (B : Base B₀ mg mb) {e : Expr} {ds : List D} {np : Pos} (hh : A.handled = none) (hg : Glb mg mb "reversed" (.type "reversed")) (he : Ev prog w B₀ A env MU ρ e (.lst ds)) (hn : ds.length ≤ 100000)
    (hs : starEach [e] env = [(false, eval e env)] := by rfl) (hk : env.kindOf "reversed" = some .globalImplicit := by rfl) : It prog w B₀ A env MU ρ (.Call (.Name "reversed" np) [e] [] pos) ds.reverse := fun s E F =>
  wpAny_Call_NameR (loadGlb B F hg hk (CW.type "reversed" A env MU ρ pos [e] [.lst ds] _ E s F (.cons he hs .nil) fun vs s₁ r K => by
    replace r := rps_cons r; obtain ⟨_, _, rfl, r1, r2⟩ := r
    (first | obtain ⟨_, rfl⟩ := rp_int r2 | obtain ⟨_, rfl⟩ := rp_str r2 | obtain rfl := rp_raw r2 | obtain rfl := rps_nil r2 | cases r2)
    replace r1 := rp_lst r1; obtain ⟨ax, vs, rfl, p, q⟩ := r1
    have F₁ := F.keeps K
    have hL := (plist p).isList
    refine call_reversed_list hL ?_
    have hne : ax ≠ s₁.heap.objs.size := by obtain ⟨o, ho, _⟩ := hL; exact Nat.ne_of_lt (Heap.lt_size ho)
    have hlen : vs.toArray.size = ds.reverse.length := by rw [List.size_toArray, List.length_reverse, q.length]
    have hit : (s₁.heap.push (revObj ax ((vs.toArray.size : Int) - 1))).IsRevIter s₁.heap.objs.size ax ((vs.toArray.size : Int) - 1) := ⟨_, Heap.get?_push_size _ rfl, rfl, rfl⟩
    refine wpAny_pyIter_revIter hit ?_
    refine ⟨s₁.heap.objs.size, [s₁.heap.objs.size, ax], [s₁.heap.objs.size], _, _, rfl, hlen ▸ Walks.listRev hh _ ax hne vs.toArray, ⟨Nat.zero_le _, by
      show Heap.IsRevIter _ _ _ (((ds.reverse.length : Nat) : Int) - 1 - ((0 : Nat) : Int))
      rw [show ((ds.reverse.length : Nat) : Int) - 1 - ((0 : Nat) : Int) = (vs.toArray.size : Int) - 1 by rw [← hlen]; omega]
      exact hit, hL.push _⟩, fun b hb => ?_, fun b hb => ?_, fun i v hi e => ?_, K.trans (Kp.push s₁ _), fun i s' Q E tgt v st h => ?_, by rw [List.length_reverse]; exact sz hn, fun i h st b hb => ?_⟩
    · rcases List.mem_cons.mp hb with rfl | hb
      · exact ⟨Low.fresh F₁.low, _, Heap.get?_push_size _ rfl⟩
      · rw [List.mem_singleton] at hb; subst hb
        obtain ⟨n, e⟩ := p
        exact ⟨(hid_get e).1, _, Heap.get?_push_of_some _ (hid_get e).2⟩
    · rw [List.mem_singleton] at hb; subst hb
      exact fresh_at K (Nat.le_refl _)
    · have e2 : vs.reverse[i]? = some v := by
        have hi' : i < vs.length := by rw [List.length_reverse, ← q.length] at hi; exact hi
        rw [List.getElem?_reverse hi', q.length]
        simpa using e
      obtain ⟨d, ed, rd⟩ := q.reverse.get e2
      refine ⟨d, ed, rd.mono fun b o eb => ?_⟩
      obtain ⟨n1, e1⟩ := hid_get eb
      refine hid_of (fun hm => ?_) (Heap.get?_push_of_some _ e1)
      rcases List.mem_append.mp hm with hm | hm
      · rw [List.mem_singleton] at hm; subst hm; exact Nat.lt_irrefl _ (Heap.lt_size e1)
      · exact n1 hm
    · obtain ⟨_, ⟨o, ho, hc, _⟩, _⟩ := st
      exact owned_skip tgt v ho hc (by decide +kernel) h
    · obtain ⟨_, ⟨o, ho, _⟩, ⟨o', ho', _⟩⟩ := st
      rcases List.mem_cons.mp hb with rfl | hb
      · exact ⟨_, ho⟩
      · rw [List.mem_singleton] at hb; subst hb; exact ⟨_, ho'⟩) (by decide +kernel))
-- statements
theorem Obj.rev_plain (its : Array Value) (n : Nat) : ∃ n', Obj.mapSeq (fun x => x.reverse) { cls := .type "list", data := .seq its n } = { cls := .type "list", data := .seq its.reverse n' } := by
  simp [Obj.mapSeq]
theorem s_reverse {o : Expr} {apos cpos : Pos} {a : Addr} {ys : List D} {ω₁ ω₂ : List (Addr × List D)} {Q : Flow → Shared → Prop} (S : St B₀ s₀ md env MU ρ (ω₁ ++ (a, ys) :: ω₂) s) (ho : Ev prog w B₀ A env MU ρ o (.raw (.ref a))) (hn : ys.length ≤ sizeLine)
    (h : ∀ s', St B₀ s₀ md env MU ρ (ω₁ ++ (a, ys.reverse) :: ω₂) s' → Q .next s')
    (hi : interactive env = false := by rfl) (hsw : swapsWith (.Call (.Attribute o "reverse" apos) [] [] cpos) none pos.line env = pure false := by rfl)
    (hbase : attributeBase o "reverse" env (eval o env) = eval o env := by rfl) (hline : (apos.endLine == cpos.line) = true := by rfl) :
    wpAny (model prog w) A (exec (.Expr (.Call (.Attribute o "reverse" apos) [] [] cpos) pos) env) Q E s := by
  refine wpAny_Expr ?_ hi hsw
  refine meth_of (T := "list") (id := "list.reverse") (ds := []) PySem.F.plainAttrs_list PySem.F.slot_list_reverse PySem.F.type_list_reverse S.f ho .nil (fun v s' rv K => ?_) (fun v vs s' rv r K => ?_) hbase rfl hline
  · (first | obtain ⟨_, rfl⟩ := rp_int rv | obtain ⟨_, rfl⟩ := rp_str rv | obtain rfl := rp_raw rv | obtain rfl := rps_nil rv | cases rv)
    obtain ⟨⟨vs, p, r⟩, sd⟩ := (S.kp K).fo.o (a, ys) (by simp)
    obtain ⟨n, e⟩ := p
    exact ⟨⟨_, e, rfl⟩, fun b q => by cases q; exact ⟨_, e, rfl⟩⟩
  · (first | obtain ⟨_, rfl⟩ := rp_int rv | obtain ⟨_, rfl⟩ := rp_str rv | obtain rfl := rp_raw rv | obtain rfl := rps_nil rv | cases rv); (first | obtain ⟨_, rfl⟩ := rp_int r | obtain ⟨_, rfl⟩ := rp_str r | obtain rfl := rp_raw r | obtain rfl := rps_nil r | cases r)
    have S' := S.kp K
    obtain ⟨⟨us, ⟨n, e⟩, rs⟩, sd⟩ := S'.fo.o (a, ys) (by simp)
    refine call_meets PySem.F.slot_list_reverse ⟨_, e, rfl⟩ PySem.F.entry_list_reverse (PySem.F.args_list_reverse_1 _) (PySem.AutoSeq1.list_reverse_list_0 a us.toArray n (by rw [List.size_toArray, rs.length]; exact hn)) ⟨e, ?_⟩
    obtain ⟨n', en⟩ := Obj.rev_plain us.toArray n
    have hs' : Heap.SameBut a s'.heap (s'.heap.update a (Obj.mapSeq fun x => x.reverse)) := Heap.SameBut.update ..
    have sub : Sub (Hid MU s'.heap) (Hid MU (s'.heap.update a (Obj.mapSeq fun x => x.reverse))) := (sb1 hs').hid (by simpa using sd.mem)
    refine h _ (S'.upd (s' := { s' with heap := s'.heap.update a (Obj.mapSeq fun x => x.reverse) }) ⟨_, _, rfl, sb1 hs'⟩ ⟨us.reverse, ⟨n', ?_⟩, rs.reverse.mono sub⟩)
    show (s'.heap.update a (Obj.mapSeq fun x => x.reverse)).get? a = _
    rw [Heap.get?_update_self _ e (by rw [en]; rfl), en]
    simp
theorem s_pair {x y : Str} {p1 p2 tp : Pos} {k : Nat} {e : Expr} {d d' : D} {a b : Addr} {Q : Flow → Shared → Prop} (S : St B₀ s₀ md env MU ρ ω s) (hh : A.handled = none) (he : Ev prog w B₀ A env MU ρ e (.tup [d, d'])) (T1 : SlotOf env x a) (T2 : SlotOf env y b)
    (h : ∀ s', St B₀ s₀ md env MU ((y, d') :: (x, d) :: ρ) ω s' → Q .next s') (hs : swapsWithSole [.Tuple [.Name x p1, .Name y p2] k tp] e pos.line env = pure false := by rfl) (hw : swappedStores [.Tuple [.Name x p1, .Name y p2] k tp] e env = pure none := by rfl) :
    wpAny (model prog w) A (exec (.Assign [.Tuple [.Name x p1, .Name y p2] k tp] e pos) env) Q E s :=
  Assign_Tuple (wpAny_mono (he s E S.f) (fun v s₁ ⟨r, K⟩ => (S.kp K).asT (AsT.pair T1 T2) (fun c hc => by
    simp only [List.mem_cons, List.not_mem_nil, or_false] at hc
    rcases hc with rfl | rfl
    · rcases T1 with ⟨_, e⟩ | ⟨k, e⟩
      · exact .inl e
      · exact .inr ⟨_, k, e⟩
    · rcases T2 with ⟨_, e⟩ | ⟨k, e⟩
      · exact .inl e
      · exact .inr ⟨_, k, e⟩) hh r h) fun _ _ x => x) hs hw
end
end Mine
end
end
section
set_option Elab.async false
noncomputable section
open PySem PySem.W PySem.Calls PyProof.Rows
set_option maxRecDepth 100000
set_option linter.unusedVariables false
set_option maxHeartbeats 1000000
namespace Mine
/-- a code's table of inner codes: empty, or with the one -/
structure TabOk (h : Heap) (c P : Addr) (pos : Pos) (qual : Str) : Prop where
  hd : CodeHd h c P
  tab : ∃ ps, h.get? P = some (tabObj ps) ∧ (ps = #[] ∨ ∃ c', ps = #[rawInt pos.line, rawInt pos.col, .ref c'] ∧ h.CodeRec (.ref c') qual)
theorem TabOk.other {h h' : Heap} {c P P' : Addr} {pos : Pos} {qual : Str} (x : TabOk h c P pos qual) (k : SubB [P'] h h') (n1 : P ≠ P') (n2 : c ≠ P') (hcls : ∀ o, h.get? P' = some o → o.cls = .none ∧ ∃ ps, o.data = .fields ps ∧ ps.size ≤ 3 ∧ ∀ y t, ps[1]? ≠ some (.str y t)) : TabOk h' c P pos qual := by
  obtain ⟨hd, ps, e, r⟩ := x
  refine ⟨?_, ps, k _ _ (by simpa using n1) e, r.imp id fun ⟨c', e1, c2, o, vs, t, q1, q2, q3, q4⟩ => ⟨c', e1, c2, o, vs, t, q1, k _ _ (fun q => ?_) q2, q3, q4⟩⟩
  · obtain ⟨o, vs, file, tf, flags, tg, inF, text, tt, e1, r⟩ := hd
    exact ⟨o, vs, file, tf, flags, tg, inF, text, tt, k _ _ (by simpa using n2) e1, r⟩
  · rw [List.mem_singleton] at q; subst q
    obtain ⟨_, ps', e2, _, e4⟩ := hcls o q2
    rw [e2] at q3; cases q3
    exact e4 qual t q4
section
variable {prog : Program} {w : World} {B₀ B₁ : Heap} {A : Around} {env : Env} {MU mu md : List Addr} {ρ : List (Str × D)} {ω : List (Addr × List D)} {s₀ s s' : Shared} {E : Value → Shared → Prop} {mg mb : Str → Option Value} {pos : Pos}
theorem s_def {name qual : Str} {params : Arguments} {body : List Stmt} {scope : Scope} {clos : List (Str × Addr)} {c P a : Addr} {Q : Flow → Shared → Prop} (S : St B₀ s₀ md env MU ρ ω s) (hb : ∀ b ∈ MU, B₀.get? b = none) (B : Base B₀ mg mb) (TB : TabOk B₀ c P pos qual) (bm : B₀.BuiltinsAt mg P) (hgl : env.globals = mainGlobals) (hcode : env.code = .ref c) (hcl : closureFor scope env = pure clos) (T : SlotOf env name a)
    (h : ∀ B₁ s' f c' ctv doc, SubB [P] B₀ B₁ → (∀ b ∈ MU, B₁.get? b = none) → TabOk B₁ c P pos qual → FnAtB B₁ f (fnX name qual params body scope clos .none .none doc ((mg "__name__").getD .none) none (.ref c') ctv) → St B₁ s₀ ([P] ++ md) env MU ((name, .raw (.ref f)) :: ρ) ω s' → Q .next s')
    (hq : qualnameIn env name name = qual := by rfl) (hd0 : params.defaults = [] := by rfl) (hk0 : params.kw_defaults = [] := by rfl) (ha : annTrees params none env = [] := by rfl) :
    wpAny (model prog w) A (exec (.FunctionDef name params body [] none [] scope none name pos) env) Q E s := by
  refine nestDef_K hd0 hk0 ha ?_
  rw [hq]
  obtain ⟨C, ps, eP, tb⟩ := TB
  have g := S.f.g
  have hPM : P ∉ MU := fun q => by rw [hb P q] at eP; cases eP
  have hgP : mainGlobals ≠ P := fun q => by
    obtain ⟨o, es, ep, e, hd, _⟩ := B.g
    rw [q, eP] at e; cases e; cases hd
  have bms : s.heap.BuiltinsAt mg P := let ⟨bm, o, h1, h2, h3, h4, h5, h6⟩ := bm; ⟨bm, o, h1, h2, h3, h4, g _ _ h5, h6⟩
  have fin : ∀ (s₁ : Shared) (f c' : Addr) (doc ctv : Value), KB [P] s s₁ → s.heap.objs.size ≤ f → c' ∉ MU → s₁.heap.CodeRec (.ref c') qual → s₁.heap.get? P = some (tabObj #[rawInt pos.line, rawInt pos.col, .ref c']) → s₁.heap.get? f = some (fnMade name qual params body scope clos doc ((mg "__name__").getD .none) c' ctv) →
      wpAny (model prog w) A (storeName env name (.ref f)) (fun _ s'' => Q .next s'') E s₁ := fun s₁ f c' doc ctv K hf hc' hr et ef => by
    have S₁ := S.turnT K (fun c hc => by rw [List.mem_singleton] at hc; subst hc; exact hPM) fun c hc o e => by
      rw [List.mem_singleton] at hc; subst hc
      rw [g _ _ eP] at e; cases e; rfl
    have k1 := S.turnB K hb
    have nf : f ∉ MU := fun q => by obtain ⟨o, e⟩ := S.f.low f q; exact absurd (Heap.lt_size e) (Nat.not_lt.mpr hf)
    have hr1 : (Hid MU s₁.heap).CodeRec (.ref c') qual := by
      obtain ⟨c2, o, vs, t, q1, q2, q3⟩ := hr
      cases q1
      exact ⟨_, o, vs, t, rfl, hid_of hc' q2, q3⟩
    refine S₁.store T (.raw (.ref f)) fun s₂ S₂ => h _ s₂ f c' ctv doc k1 (fun b hm => hideAll_none _ hm) ⟨?_, _, hid_of hPM et, .inr ⟨c', rfl, hr1⟩⟩ ⟨⟨_, _, _, hid_of nf ef⟩, hr1⟩ S₂
    obtain ⟨o, vs, file, tf, flags, tg, inF, text, tt, e1, r1, r2, r3, r4, r5, r6, r7, r8, r9⟩ := C
    exact ⟨o, vs, file, tf, flags, tg, inF, text, tt, k1 _ _ (by simpa using r9) e1, r1, r2, r3, r4, r5, r6, r7, r8, r9⟩
  rcases tb with rfl | ⟨c', rfl, hr⟩
  · refine makeFunction_K (mg := mg) hcl hgl (B.g.keeps g) hcode (C.keeps g) (g _ _ eP) trivial rfl hgP bms fun c' ctv doc h' tk hx hge hlt hrec htb => ?_
    refine fin _ h'.objs.size c' doc ctv ⟨_, _, rfl, fun b o n e => Heap.get?_push_of_some _ (hx b o (by simpa using n) e)⟩ (Nat.le_trans hge (Nat.le_of_lt hlt)) (fun q => ?_) (hrec.push _) (Heap.get?_push_of_some _ (by simpa using htb)) (Heap.get?_push_size _ rfl)
    obtain ⟨o, e⟩ := S.f.low c' q
    exact absurd (Heap.lt_size e) (Nat.not_lt.mpr hge)
  · refine makeFunction_hit (mg := mg) (cv := .ref c') hcl hgl (B.g.keeps g) hcode (C.keeps g) (g _ _ eP) (by simp [TriplesOk, rawInt]) (by simp [codeAmong, rawInt]) bms fun ctv doc h' tk hk hsz => ?_
    have hk' : Sub s.heap (h'.push { cls := .type "function", data := .func (fnX name qual params body scope clos .none .none doc ((mg "__name__").getD .none) none (.ref c') ctv) }) := fun b o e => Heap.get?_push_of_some _ (hk b o e)
    refine fin _ h'.objs.size c' doc ctv ⟨_, _, rfl, fun b o n e => hk' b o e⟩ hsz (fun q => ?_) (code_keeps hk' (code_keeps g hr)) (hk' _ _ (g _ _ eP)) (Heap.get?_push_size _ rfl)
    obtain ⟨c2, o, vs, t, q1, q2, q3⟩ := hr
    cases q1
    rw [hb _ q] at q2; cases q2
end
end Mine
end
end
section
set_option Elab.async false
noncomputable section
open PySem PySem.W PySem.Calls PyProof.Rows
set_option maxRecDepth 100000
set_option linter.unusedVariables false
set_option maxHeartbeats 1000000
namespace Mine
noncomputable def subDef (i j : Nat) : Stmt := ((bodyOf (topStmt i))[j]?).getD (.Pass ⟨0, 0, 0, 0⟩)
noncomputable def argsOf : Stmt → Arguments
  | .FunctionDef _ args _ _ _ _ _ _ _ _ => args
  | _ => default
noncomputable def scopeOf : Stmt → Scope
  | .FunctionDef _ _ _ _ _ _ scope _ _ _ => scope
  | _ => default
/-- cells of a closure -/
structure Clo (B₀ : Heap) (mu : List Addr) (h : Heap) (cl : List (Str × Addr)) (ρc : List (Str × D)) : Prop where
  mem : ∀ n c, cl.lookup n = some c → c ∈ mu ∧ B₀.get? c = none ∧ ∃ v, h.IsCell c v
  inj : ∀ n n' c, cl.lookup n = some c → cl.lookup n' = some c → n = n'
  val : ∀ x d, ρc.lookup x = some d → ∃ c v, cl.lookup x = some c ∧ h.IsCell c (some v) ∧ Rp (Hid mu h) v d
section
variable {prog : Program} {w : World} {B₀ : Heap} {A : Around} {env : Env} {MU mu md : List Addr} {ρ ρc : List (Str × D)} {ω : List (Addr × List D)} {s₀ s s' : Shared} {E : Value → Shared → Prop} {mg mb : Str → Option Value} {pos : Pos}
theorem Clo.of {h : Heap} {cl : List (Str × Addr)} (F : Frm B₀ env mu ρ h) (hs : ∀ n c, cl.lookup n = some c → env.cells.lookup n = some c) (hc : ∀ x d, ρc.lookup x = some d → cl.lookup x = env.cells.lookup x ∧ isCellKind (env.kindOf x) = true ∧ ρ.lookup x = some d) : Clo B₀ mu h cl ρc :=
  ⟨fun n c e => ⟨(F.wf.cel n c (hs n c e)).1, (F.wf.cel n c (hs n c e)).2.1, F.cl n c (hs n c e)⟩, fun n n' c e e' => F.wf.inj n n' c (hs _ _ e) (hs _ _ e'), fun x d e => by
    obtain ⟨h1, h2, h3⟩ := hc x d e
    obtain ⟨v, p, r⟩ := F.var x d h3
    obtain ⟨c, ec, i⟩ := VarAt.cell h2 p
    exact ⟨c, v, h1.trans ec, i, r⟩⟩
/-- a call of a name that holds a function, as a statement; it gives none back -/
theorem s_callX {f : Addr} {x : Str} {es : List Expr} {ds : List D} {np cpos : Pos} {Q : Flow → Shared → Prop} (S : St B₀ s₀ md env MU ρ ω s) (FN : FnAt f B₀) (hx : ρ.lookup x = some (.raw (.ref f))) (hes : Evs prog w B₀ A env MU ρ es ds)
    (h : ∀ vs s', Rps (Hid MU s'.heap) vs ds → St B₀ s₀ md env MU ρ ω s' → wpAny (model prog w) A (call (.ref f) vs) (fun v s'' => v = .none ∧ Q .next s'') E s')
    (hi : interactive env = false := by rfl) (hsw : swapsWith (.Call (.Name x np) es [] cpos) none pos.line env = pure false := by rfl) (hd : (x == ("__debug__" : Str)) = false := by decide +kernel) (hn : (x == ("__classdict__" : Str)) = false := by decide +kernel) :
    wpAny (model prog w) A (exec (.Expr (.Call (.Name x np) es [] cpos) pos) env) Q E s := by
  refine wpAny_Expr ?_ hi hsw
  obtain ⟨v, p, r⟩ := S.f.var x _ hx
  (first | obtain ⟨_, rfl⟩ := rp_int r | obtain ⟨_, rfl⟩ := rp_str r | obtain rfl := rp_raw r | obtain rfl := rps_nil r | cases r)
  refine wpAny_Call_NameR (loadVar S.f.k p ?_ hd hn)
  exact CW.fn FN A env MU ρ cpos es ds _ E s S.f hes fun vs s' r K => wpAny_mono (h vs s' r (S.kp K)) (fun v s'' ⟨e, q⟩ => by subst e; exact q) fun _ _ x => x
/-- the same, as an expression -/
theorem Ev.callX {f : Addr} {x : Str} {es : List Expr} {ds : List D} {d : D} {np : Pos} (FN : FnAt f B₀) (hx : ρ.lookup x = some (.raw (.ref f))) (hes : Evs prog w B₀ A env MU ρ es ds)
    (h : ∀ vs s E, Rps (Hid MU s.heap) vs ds → Frm B₀ env MU ρ s.heap → wpAny (model prog w) A (PySem.call (.ref f) vs) (fun v s' => Rp (Hid MU s'.heap) v d ∧ Kp s s') E s)
    (hd : (x == ("__debug__" : Str)) = false := by decide +kernel) (hn : (x == ("__classdict__" : Str)) = false := by decide +kernel) :
    Ev prog w B₀ A env MU ρ (.Call (.Name x np) es [] pos) d := fun s E F => by
  obtain ⟨v, p, r⟩ := F.var x _ hx
  (first | obtain ⟨_, rfl⟩ := rp_int r | obtain ⟨_, rfl⟩ := rp_str r | obtain rfl := rp_raw r | obtain rfl := rps_nil r | cases r)
  refine wpAny_Call_NameR (loadVar F.k p ?_ hd hn)
  exact CW.fn FN A env MU ρ pos es ds _ E s F hes fun vs s' r K => wpAny_mono (h vs s' E r (F.keeps K)) (fun _ _ ⟨x, y⟩ => ⟨x, K.trans y⟩) fun _ _ x => x
end
noncomputable def qI1 : Str := ("_int2digits.<locals>.inner" : Str)
noncomputable def fnI1 (clos : List (Str × Addr)) (doc pm : Value) (c' : Addr) (ctv : Value) : FuncData := fnX "inner" qI1 (argsOf (subDef 6 1)) (bodyOf (subDef 6 1)) (scopeOf (subDef 6 1)) clos .none .none doc pm none (.ref c') ctv
theorem fnI1_ok (clos : List (Str × Addr)) (doc pm : Value) (c' : Addr) (ctv : Value) : FnOk (fnI1 clos doc pm c' ctv) (bodyOf (subDef 6 1)) ["x", "L", "R"] :=
  ⟨rfl, rfl, rfl, rfl, rfl, rfl, by decide +kernel, show ∀ n ∈ [("x" : Str), "L", "R"], (scopeOf (subDef 6 1)).names.lookup n = some .local by decide +kernel, show ∀ x ∈ (scopeOf (subDef 6 1)).names, x.2 ≠ .cell by decide +kernel⟩
theorem half_int (L k : Nat) : (((L : Int) + ((L + k : Nat) : Int)).fdiv (2 ^ (1 : Int).toNat)) = ((L + k / 2 : Nat) : Int) := by
  rw [Int.fdiv_eq_ediv_of_nonneg _ (by decide)]
  show ((L : Int) + ((L + k : Nat) : Int)) / 2 = _
  omega
theorem shr_nat (x m : Nat) : ((x : Int).fdiv (2 ^ ((m : Int)).toNat)) = ((x / 2 ^ m : Nat) : Int) := by
  rw [Int.fdiv_eq_ediv_of_nonneg _ (Int.le_of_lt (Int.pow_pos (by decide))), Int.toNat_natCast]
  push_cast
  rfl
section
variable {w : World} {B₀ : Heap} {mg mb : Str → Option Value}
noncomputable abbrev rhoI1 (al : Addr) (n : Nat) (f : Addr) : List (Str × D) := [("a_digits", .raw (.ref al)), ("n", .int (n : Int)), ("inner", .raw (.ref f))]
theorem in1_ok (B : Base B₀ mg mb) {clos : List (Str × Addr)} {doc pm ctv : Value} {c' f al : Addr} (FN : FnAtB B₀ f (fnI1 clos doc pm c' ctv)) {n : Nat} (hn0 : 0 < n) (hn1 : n ≤ 1000) (hlB : B₀.get? al = none) :
    ∀ (k : Nat), 0 < k → k ≤ 1000 → ∀ {A : Around} {mu : List Addr} {s : Shared} {E : Value → Shared → Prop} {L x : Nat} {ys : List D} {vs : List Value}, A.handled = none → A.depth + k + 20 < recursionLimit → Sub B₀ s.heap → Low mu s.heap → al ∈ mu → Clo B₀ mu s.heap clos (rhoI1 al n f) → Acc al mu ys s.heap → x < 2 ^ (n * k) → L + k ≤ ys.length → ys.length ≤ 1000 → Rps (Hid mu s.heap) vs [.int (x : Int), .int (L : Int), .int ((L + k : Nat) : Int)] →
      wpAny (model theProg w) A (call (.ref f) vs) (fun v s' => v = .none ∧ KB [al] s s' ∧ Acc al mu (dset n ys L k x) s'.heap) E s := by
  intro k
  induction k using Nat.strongRecOn with
  | ind k ih =>
    intro hk0 hk1 A mu s E L x ys vs hh hd g low hal C ac hx hL hys r
    obtain ⟨oc, od, sl, eo⟩ := FN.obj
    have nal : s.heap.get? al ≠ none := by obtain ⟨us, ⟨_, e⟩, _⟩ := ac; rw [e]; exact fun q => nomatch q
    refine call_gen (ds := [.int (x : Int), .int (L : Int), .int ((L + k : Nat) : Int)]) (ρc := rhoI1 al n f) B (fnI1_ok clos doc pm c' ctv) (g _ _ eo) (code_keeps g FN.code) (by omega) g low C.mem C.inj (fun y d e => ⟨?_, C.val y d e⟩) (fun A' E' Q' k' => ?_) fun L' s₁ nL K F E => ?_
    · show (scopeOf (subDef 6 1)).names.lookup y = some .free
      have : y ∈ [("a_digits" : Str), "n", "inner"] := by
        have := lookup_mem e
        simp only [List.mem_cons, List.not_mem_nil, or_false, Prod.mk.injEq] at this
        rcases this with ⟨q, _⟩ | ⟨q, _⟩ | ⟨q, _⟩ <;> subst q <;> simp
      exact (show ∀ y ∈ [("a_digits" : Str), "n", "inner"], (scopeOf (subDef 6 1)).names.lookup y = some .free by decide +kernel) y this
    · replace r := rps_cons r; obtain ⟨_, _, rfl, r1, r2⟩ := r
      replace r2 := rps_cons r2; obtain ⟨_, _, rfl, r2, r3⟩ := r2
      replace r3 := rps_cons r3; obtain ⟨v3, _, rfl, r3, r4⟩ := r3
      (first | obtain ⟨_, rfl⟩ := rp_int r4 | obtain ⟨_, rfl⟩ := rp_str r4 | obtain rfl := rp_raw r4 | obtain rfl := rps_nil r4 | cases r4)
      exact wpAny_of_eq (show bindArgs (fnI1 clos doc pm c' ctv) ⟨[_, _, v3], []⟩ = pure ([("x" : Str), "L", "R"].zip [_, _, v3]) from rfl) (k' _ s (Kp.refl s) (.cons r1 (.cons r2 (.cons r3 .nil))) rfl)
    have lL : al ≠ L' := fun q => nal (q ▸ nL)
    have nLB : B₀.get? L' = none := by cases q : B₀.get? L' with | none => rfl | some o => rw [g _ _ q] at nL; cases nL
    have ac1 : Acc al ([L'] ++ mu) ys s₁.heap := acc_hide ac K fun b hb => by rw [List.mem_singleton] at hb; subst hb; exact nL
    have aside : Aside B₀ (callEnv (fnI1 clos doc pm c' ctv) L' f) ([L'] ++ mu) al := by
      refine ⟨.tail _ hal, hlB, lL, fun n' c e q => ?_⟩
      obtain ⟨v, o, eo', hd'⟩ := (C.mem n' c e).2.2
      obtain ⟨us, ⟨_, e2⟩, _⟩ := ac
      rw [q, e2] at eo'
      cases eo'
      cases hd'
    have noc : ∀ n' c, (callEnv (fnI1 clos doc pm c' ctv) L' f).kindOf n' = some .cell → (callEnv (fnI1 clos doc pm c' ctv) L' f).cells.lookup n' = some c → c ∈ [al] ∨ s.heap.get? c = none := fun n' c q e => by
      exfalso
      have q' : (scopeOf (subDef 6 1)).names.lookup n' = some .cell := q
      exact (fnI1_ok clos doc pm c' ctv).cell (n', .cell) (mem_of_lookup q') rfl
    have S : St B₀ s [al] (callEnv (fnI1 clos doc pm c' ctv) L' f) ([L'] ++ mu) _ [(al, ys)] s₁ := ⟨⟨F, fun p hp => by rw [List.mem_singleton] at hp; subst hp; exact ⟨ac1, aside⟩, List.pairwise_singleton _ _⟩, K.kb, .inr nL, noc, fun p hp => by rw [List.mem_singleton] at hp; subst hp; exact .inl (.head _)⟩
    have hA : (A.deeper (callEnv (fnI1 clos doc pm c' ctv) L' f)).handled = none := hh
    have hD : (A.deeper (callEnv (fnI1 clos doc pm c' ctv) L' f)).depth + (k - 1) + 20 < recursionLimit := by show A.depth + 1 + (k - 1) + 20 < _; omega
    generalize hA' : A.deeper (callEnv (fnI1 clos doc pm c' ctv) L' f) = A' at *
    show wpAny _ _ (execs (_ :: _) _) _ _ _
    refine wpAny_execs_cons (s_if S (Ts.eq (Ev.add (Ev.name rfl) Ev.cInt) (Ev.name rfl)) fun s₂ S₂ => ?_)
    by_cases q1 : k = 1
    · have e1 : ((L : Int) + 1 == ((L + k : Nat) : Int)) = true := by subst q1; simp
      rw [e1]
      show wpAny _ _ (execs (_ :: _) _) _ _ _
      refine wpAny_execs_cons (s_set (ω₁ := []) S₂ (Ev.name rfl) (Ev.name rfl) (Ev.name (d := .int (L : Int)) rfl) (by omega) (by omega) (sz (by omega)) fun s₃ S₃ => ?_)
      show wpAny _ _ (execs (_ :: _) _) _ _ _
      refine wpAny_execs_cons (wpAny_Return_none ⟨rfl, S₃.k, ?_⟩)
      obtain ⟨c, _⟩ := S₃.fo.o _ (.head _)
      have c' := c.eqv fun b hb => .tail _ hb
      subst q1
      have e2 : ((L : Int)).toNat = L := Int.toNat_natCast L
      rw [e2, dset_one (by simpa using hx) (by omega)] at c'
      exact c'
    · have e1 : ((L : Int) + 1 == ((L + k : Nat) : Int)) = false := by simp; omega
      rw [e1]
      refine wpAny_execs_nil ?_
      have k1 : 0 < k / 2 := by omega
      have k2 : k / 2 < k := by omega
      show wpAny _ _ (execs (_ :: _) _) _ _ _
      refine wpAny_execs_cons (s_assign (d := .int ((L + k / 2 : Nat) : Int)) S₂ (Ev.cast (Ev.shr (Ev.add (Ev.name rfl) (Ev.name rfl)) Ev.cInt (by decide)) (by rw [half_int])) (.inl ⟨rfl, rfl⟩) fun s₃ S₃ => ?_)
      show wpAny _ _ (execs (_ :: _) _) _ _ _
      refine wpAny_execs_cons (s_assign (d := .int ((n * (k / 2) : Nat) : Int)) S₃ (Ev.cast (Ev.mul (Ev.sub (Ev.name rfl) (Ev.name rfl)) (Ev.name rfl) (IntMulOk.of_right ?_)) ?_) (.inl ⟨rfl, rfl⟩) fun s₄ S₄ => ?_)
      · rw [intBits_nat]; exact bitL_le (Nat.lt_of_le_of_lt hn1 (by decide))
      · congr 1
        rw [Int.natCast_mul, Int.mul_comm (n : Int)]
        congr 1
        omega
      have nk : n * (k / 2) ≤ 1000 * 1000 := Nat.mul_le_mul hn1 (by omega)
      show wpAny _ _ (execs (_ :: _) _) _ _ _
      refine wpAny_execs_cons (s_assign (d := .int ((x / 2 ^ (n * (k / 2)) : Nat) : Int)) S₄ (Ev.cast (Ev.shr (Ev.name rfl) (Ev.name rfl) (Int.natCast_nonneg _)) (by rw [shr_nat])) (.inl ⟨rfl, rfl⟩) fun s₅ S₅ => ?_)
      show wpAny _ _ (execs (_ :: _) _) _ _ _
      have hb1 : bitL (x / 2 ^ (n * (k / 2))) ≤ n * k := bitL_le (Nat.lt_of_le_of_lt (Nat.div_le_self _ _) hx)
      have nk2 : n * k ≤ 1000 * 1000 := Nat.mul_le_mul hn1 hk1
      refine wpAny_execs_cons (s_assign (d := .int ((x % 2 ^ (n * (k / 2)) : Nat) : Int)) S₅ (Ev.cast (Ev.xor (Ev.name rfl) (Ev.shl (Ev.name rfl) (Ev.name rfl) (Int.natCast_nonneg _) ?_)) ?_) (.inl ⟨rfl, rfl⟩) fun s₆ S₆ => ?_)
      · rw [intBits_nat]; omega
      · rw [Int.toNat_natCast]
        have e3 : ((x / 2 ^ (n * (k / 2)) : Nat) : Int) * 2 ^ (n * (k / 2)) = ((x / 2 ^ (n * (k / 2)) * 2 ^ (n * (k / 2)) : Nat) : Int) := by push_cast; rfl
        rw [e3, xor_low]
      have fn : FnAt f B₀ := FN.fn
      have clo : ∀ {ρ' : List (Str × D)} {ω' : List (Addr × List D)} {s' : Shared}, St B₀ s [al] (callEnv (fnI1 clos doc pm c' ctv) L' f) ([L'] ++ mu) ρ' ω' s' → (∀ y d, (rhoI1 al n f).lookup y = some d → ρ'.lookup y = some d) → Clo B₀ ([L'] ++ mu) s'.heap clos (rhoI1 al n f) := fun S' h => Clo.of S'.f (fun _ _ e => e) fun y d e => ⟨rfl, ?_, h y d e⟩
      rotate_left
      · have : y ∈ [("a_digits" : Str), "n", "inner"] := by
          have := lookup_mem e
          simp only [List.mem_cons, List.not_mem_nil, or_false, Prod.mk.injEq] at this
          rcases this with ⟨q, _⟩ | ⟨q, _⟩ | ⟨q, _⟩ <;> subst q <;> simp
        exact (show ∀ y ∈ [("a_digits" : Str), "n", "inner"], isCellKind ((scopeOf (subDef 6 1)).names.lookup y) = true by decide +kernel) y this
      show wpAny _ _ (execs (_ :: _) _) _ _ _
      refine wpAny_execs_cons (s_callX (ds := [.int ((x % 2 ^ (n * (k / 2)) : Nat) : Int), .int (L : Int), .int ((L + k / 2 : Nat) : Int)]) S₆ fn rfl (.cons (Ev.name rfl) rfl (.cons (Ev.name rfl) rfl (.cons (Ev.name rfl) rfl .nil))) fun us s₇ ru S₇ => ?_)
      refine wpAny_mono (ih (k / 2) k2 k1 (by omega) hA (by omega) S₇.f.g S₇.f.low (.tail _ hal) (clo S₇ ?_) (S₇.fo.o _ (.head _)).1 (Nat.mod_lt _ (Nat.two_pow_pos _)) (by show L + k / 2 ≤ ys.length; omega) hys ru) (fun v s₈ ⟨e, K₈, ac₈⟩ => ⟨e, ?_⟩) fun _ _ x => x
      · exact lk_one rfl (lk_one rfl (lk_one rfl lk_nil))
      have S₈ := S₇.upd (ω₁ := []) K₈ ac₈
      show wpAny _ _ (execs (_ :: _) _) _ _ _
      refine wpAny_execs_cons (s_callX (ds := [.int ((x / 2 ^ (n * (k / 2)) : Nat) : Int), .int ((L + k / 2 : Nat) : Int), .int ((L + k / 2 + (k - k / 2) : Nat) : Int)]) S₈ fn rfl (.cons (Ev.name rfl) rfl (.cons (Ev.name rfl) rfl (.cons (Ev.cast (Ev.name rfl) (by congr 2; omega)) rfl .nil))) fun us s₉ ru S₉ => ?_)
      refine wpAny_mono (ih (k - k / 2) (by omega) (by omega) (by omega) hA (by omega) S₉.f.g S₉.f.low (.tail _ hal) (clo S₉ ?_) (S₉.fo.o _ (.head _)).1 ?_ (by rw [dset_len]; show L + k / 2 + (k - k / 2) ≤ ys.length; omega) (by rw [dset_len]; exact hys) ru) (fun v s₁₀ ⟨e, K₁₀, ac₁₀⟩ => ⟨e, ?_⟩) fun _ _ x => x
      · exact lk_one rfl (lk_one rfl (lk_one rfl lk_nil))
      · refine Nat.div_lt_of_lt_mul ?_
        rw [← Nat.pow_add, ← Nat.mul_add]
        have : k / 2 + (k - k / 2) = k := by omega
        rw [this]; exact hx
      have S₁₀ := S₉.upd (ω₁ := []) K₁₀ ac₁₀
      refine wpAny_execs_nil ⟨rfl, S₁₀.k, ?_⟩
      obtain ⟨c, _⟩ := S₁₀.fo.o _ (.head _)
      have c2 := c.eqv fun b hb => .tail _ hb
      rw [dset_two] at c2
      have : k / 2 + (k - k / 2) = k := by omega
      rw [this] at c2
      exact c2
end
end Mine
end
end
section
set_option Elab.async false
noncomputable section
open PySem PySem.W PySem.Calls PyProof.Rows
set_option maxRecDepth 100000
set_option linter.unusedVariables false
set_option maxHeartbeats 1000000
namespace Mine
section
variable {prog : Program} {w : World} {B₀ B₁ : Heap} {A : Around} {env : Env} {MU MU₂ mu md : List Addr} {ρ ρ₂ ρc : List (Str × D)} {ω : List (Addr × List D)} {s₀ s s' : Shared} {E : Value → Shared → Prop} {mg mb : Str → Option Value} {pos : Pos}
theorem TabOk.mono {h h' : Heap} {c P : Addr} {qual : Str} (x : TabOk h c P pos qual) (k : Sub h h') : TabOk h' c P pos qual :=
  ⟨x.hd.keeps k, let ⟨ps, e, r⟩ := x.tab; ⟨ps, k _ _ e, r.imp id fun ⟨c', e, q⟩ => ⟨c', e, code_keeps k q⟩⟩⟩
/-- what a body gives back that turned md -/
theorem St.doneB {fr : List Addr} {v : Value} {d : D} (S : St B₀ s₀ md env (fr ++ mu) ρ ω s) (r : Rp (Hid (fr ++ mu) s.heap) v d) : Rp (Hid mu s.heap) v d ∧ KB md s₀ s :=
  ⟨r.mono (hid_eqv fun b hb => List.mem_append_right _ hb), S.k⟩
/-- a call of a name that holds a function, its arguments seen in another frame -/
theorem s_callF {f : Addr} {x : Str} {es : List Expr} {ds : List D} {np cpos : Pos} {Q : Flow → Shared → Prop} (S : St B₀ s₀ md env MU ρ ω s) (F : Frm B₀ env MU₂ ρ₂ s.heap) (FN : FnAt f B₀) (hx : ρ₂.lookup x = some (.raw (.ref f))) (hes : Evs prog w B₀ A env MU₂ ρ₂ es ds)
    (h : ∀ vs s', Rps (Hid MU₂ s'.heap) vs ds → St B₀ s₀ md env MU ρ ω s' → wpAny (model prog w) A (call (.ref f) vs) (fun v s'' => v = .none ∧ Q .next s'') E s')
    (hi : interactive env = false := by rfl) (hsw : swapsWith (.Call (.Name x np) es [] cpos) none pos.line env = pure false := by rfl) (hd : (x == ("__debug__" : Str)) = false := by decide +kernel) (hn : (x == ("__classdict__" : Str)) = false := by decide +kernel) :
    wpAny (model prog w) A (exec (.Expr (.Call (.Name x np) es [] cpos) pos) env) Q E s := by
  refine wpAny_Expr ?_ hi hsw
  obtain ⟨v, p, r⟩ := F.var x _ hx
  (first | obtain ⟨_, rfl⟩ := rp_int r | obtain ⟨_, rfl⟩ := rp_str r | obtain rfl := rp_raw r | obtain rfl := rps_nil r | cases r)
  refine wpAny_Call_NameR (loadVar F.k p ?_ hd hn)
  exact CW.fn FN A env MU₂ ρ₂ cpos es ds _ E s F hes fun vs s' r K => wpAny_mono (h vs s' r (S.kp K)) (fun v s'' ⟨e, q⟩ => by subst e; exact q) fun _ _ x => x
end
noncomputable def fdI2d : FuncData := fdOf 58 (.str (Str.ofString "cpy313._pylong") 289) (topStmt 6)
noncomputable def posI1 : Pos := ⟨36, 4, 45, 28⟩
noncomputable def digD (n a : Nat) : D := .lst ((digs n a).map fun (d : Nat) => D.int (d : Int))
theorem EvN.cast {prog : Program} {w : World} {B₀ : Heap} {A : Around} {env : Env} {MU : List Addr} {ρ : List (Str × D)} {e : Expr} {ds ds' : List D} (h : EvN prog w B₀ A env MU ρ e ds) (q : ds = ds') : EvN prog w B₀ A env MU ρ e ds' := q ▸ h
theorem ndig_int {n : Nat} (a : Nat) : (((bitL a : Nat) : Int) + (n : Int) - 1).fdiv (n : Int) = ((ndig n a : Nat) : Int) ∨ n = 0 := by
  rcases Nat.eq_zero_or_pos n with h | h
  · exact .inr h
  · refine .inl ?_
    unfold ndig
    rw [Int.fdiv_eq_ediv_of_nonneg _ (Int.natCast_nonneg _)]
    have : ((bitL a : Nat) : Int) + (n : Int) - 1 = ((bitL a + n - 1 : Nat) : Int) := by omega
    rw [this]
    exact (Int.natCast_ediv _ _).symm
theorem qual_I1 (L : Addr) : qualnameIn (callEnvC fdI2d L 59) "inner" "inner" = qI1 :=
  show (if (fdI2d.scope.names.lookup ("inner" : Str) == some .globalExplicit) = true then ("inner" : Str) else (fdI2d.qualname ++ ".<locals>.") ++ "inner") = qI1 by decide +kernel
theorem noPy {x y : Int} (h : y.natAbs < 2 ^ 9000) : Builtin.divisionGoesByPylong x y = false := by
  unfold Builtin.divisionGoesByPylong
  have : ¬ (300 < (if (y == 0) = true then 0 else y.natAbs.log2 / 30 + 1)) := by
    split
    · omega
    · rename_i q
      have hy : y.natAbs ≠ 0 := by simp at q; omega
      have := (Nat.log2_lt hy).mpr h
      omega
  simp only [Bool.and_eq_false_imp, decide_eq_true_eq]
  intro q
  exact absurd q this
section
variable {w : World} {B₀ : Heap} {mg mb : Str → Option Value} {A : Around} {mu : List Addr}
theorem i2d_ok (B : Base B₀ mg mb) (N : Nms mg mb) (X : Def B₀ 59 fdI2d (bodyOf (topStmt 6)) ["a", "n"]) (TB : TabOk B₀ 58 54 posI1 qI1) (bm : B₀.BuiltinsAt mg 54) {a n : Nat} (hn0 : 0 < n) (hn1 : n ≤ 1000) (hk : ndig n a ≤ 500) (hh : A.handled = none) (hd : A.depth + 560 < recursionLimit) {s : Shared} {E : Value → Shared → Prop} {us : List Value}
    (g : Sub B₀ s.heap) (low : Low mu s.heap) (hmu : ∀ b ∈ mu, B₀.get? b = none) (r : Rps (Hid mu s.heap) us [.int (a : Int), .int (n : Int)]) :
    wpAny (model theProg w) A (call (.ref 59) us) (fun v s' => Rp (Hid mu s'.heap) v (digD n a) ∧ KB [54] s s' ∧ TabOk (Hid mu s'.heap) 58 54 posI1 qI1) E s := by
  refine call_st B X (by omega) g low r (by rw [r.length]; rfl) ?_ fun s₁ S E => ?_
  · replace r := rps_cons r; obtain ⟨_, _, rfl, r1, r2⟩ := r
    replace r2 := rps_cons r2; obtain ⟨_, _, rfl, r2, r3⟩ := r2
    (first | obtain ⟨_, rfl⟩ := rp_int r3 | obtain ⟨_, rfl⟩ := rp_str r3 | obtain rfl := rp_raw r3 | obtain rfl := rps_nil r3 | cases r3); rfl
  have hA : (A.deeper (callEnvC fdI2d s.heap.objs.size 59)).handled = none := hh
  have hdep : (A.deeper (callEnvC fdI2d s.heap.objs.size 59)).depth + 540 < recursionLimit := by show A.depth + 1 + 540 < _; omega
  have hbM : ∀ b ∈ frameAt fdI2d s.heap.objs.size ++ mu, B₀.get? b = none := fun b hm => by
    rcases List.mem_append.mp hm with hm | hm
    · cases z : B₀.get? b with
      | none => rfl
      | some o => have := g _ _ z; rw [frame_fresh fdI2d s.heap b hm] at this; cases this
    · exact hmu b hm
  generalize hL : s.heap.objs.size = L at *
  generalize hA' : A.deeper (callEnvC fdI2d L 59) = A' at *
  show wpAny _ _ (execs (_ :: _) _) _ _ _
  have hn1' : bitL n ≤ 64 := bitL_le (Nat.lt_of_le_of_lt hn1 (by decide))
  have e0 : (((bitL a : Nat) : Int) + (n : Int) - 1).fdiv (n : Int) = ((ndig n a : Nat) : Int) := (ndig_int a).resolve_right (by omega)
  refine wpAny_execs_cons (s_new (ds := List.replicate (ndig n a) (.int 0)) S (EvN.cast (EvN.lmul (k := ((ndig n a : Nat) : Int)) (Ev.list (.cons Ev.cInt rfl .nil) (sz (by simp))) (Ev.cast (Ev.div (Ev.sub (Ev.add (Ev.bitLen (Ev.name rfl)) (Ev.name rfl)) Ev.cInt) (Ev.name rfl) (by omega) (noPy ?_)) ?_) (Int.natCast_nonneg _) (by omega)) (by rw [Int.toNat_natCast])) (.inr ⟨rfl, rfl⟩) fun al s₂ ha S₂ => ?_)
  · exact Nat.lt_of_le_of_lt hn1 (Nat.lt_of_lt_of_le (by decide : 1000 < 2 ^ 10) (Nat.pow_le_pow_right (by decide) (by decide)))
  · rw [intBits_nat, e0]
  show wpAny _ _ (execs (_ :: _) _) _ _ _
  have hbM2 : ∀ b ∈ al :: (frameAt fdI2d L ++ mu), B₀.get? b = none := fun b hm => by
    rcases List.mem_cons.mp hm with q | hm
    · rw [q]; exact (S₂.fo.o _ (.head _)).2.base
    · exact hbM b hm
  refine wpAny_execs_cons (s_def (qual := qI1) (c := 58) (P := 54) (clos := [("n", L + 1), ("inner", L + 3), ("a_digits", L + 2)]) (mg := mg) (mb := mb) S₂ hbM2 B TB bm rfl rfl rfl (.inr ⟨rfl, rfl⟩) (fun B₁ s₃ f c' ctv doc k1 hB1 TB1 FN S₃ => ?_) (qual_I1 L))
  have B1 := B.monoB k1 (by decide) (by decide) (by decide)
  have FN1 : FnAtB B₁ f (fnI1 [("n", L + 1), ("inner", L + 3), ("a_digits", L + 2)] doc ((mg "__name__").getD .none) c' ctv) := FN
  have fin : ∀ {ρ' : List (Str × D)} {s' : Shared} {E' : Value → Shared → Prop}, ρ'.lookup ("a_digits" : Str) = some (D.raw (.ref al)) → St B₁ s ([54] ++ []) (callEnvC fdI2d L 59) (al :: (frameAt fdI2d L ++ mu)) ρ' [(al, (digs n a).map fun (d : Nat) => D.int (d : Int))] s' →
      wpAny (model theProg w) A' (execs ((bodyOf (topStmt 6)).drop 3) (callEnvC fdI2d L 59)) (fun fl s' => (fun v s' => Rp (Hid mu s'.heap) v (digD n a) ∧ KB [54] s s' ∧ TabOk (Hid mu s'.heap) 58 54 posI1 qI1) (match fl with | .ret v => v | _ => .none) s') E' s' := fun {ρ' s' E'} hx S' => by
    have S₄ := S'.freeze (x := "a_digits") ha hx
    show wpAny _ _ (execs (_ :: _) _) _ _ _
    refine wpAny_execs_cons (s_return S₄ (Ev.name rfl) fun v s₅ rv S₅ => ?_)
    obtain ⟨h1, h2⟩ := S₅.doneB rv
    exact ⟨h1, h2, TB1.mono fun b o e => hid_of (fun q => by rw [hB1 b (.tail _ (List.mem_append_right _ q))] at e; cases e) (S₅.f.g _ _ e)⟩
  show wpAny _ _ (execs (_ :: _) _) _ _ _
  refine wpAny_execs_cons (s_if S₃ (Ts.int (Ev.name rfl)) fun s₄ S₄ => ?_)
  by_cases q0 : a = 0
  · have e1 : ((a : Int) != 0) = false := by rw [q0]; rfl
    rw [e1]
    refine wpAny_execs_nil ?_
    have : ((digs n a).map fun (d : Nat) => D.int (d : Int)) = List.replicate (ndig n a) (.int 0) := by
      subst q0
      have : ndig n 0 = 0 := by
        unfold ndig
        have : bitL 0 = 0 := rfl
        rw [this]
        exact Nat.div_eq_of_lt (by omega)
      unfold digs
      rw [this]; rfl
    rw [← this] at S₄
    exact fin (by rfl) S₄
  · have e1 : ((a : Int) != 0) = true := by simp; omega
    rw [e1]
    show wpAny _ _ (execs (_ :: _) _) _ _ _
    have hpos : 0 < ndig n a := by
      have := lt_ndig hn0 a
      rcases Nat.eq_zero_or_pos (ndig n a) with z | z
      · rw [z] at this; simp at this; omega
      · exact z
    have F4 := (S₄.freeze (x := "a_digits") ha rfl).f
    refine wpAny_execs_cons (s_callF (ds := [.int (a : Int), .int ((0 : Nat) : Int), .int ((0 + ndig n a : Nat) : Int)]) S₄ F4 FN1.fn rfl (.cons (Ev.name rfl) rfl (.cons Ev.cInt rfl (.cons (Ev.cast (Ev.lenL B1 (Ev.name rfl) (by rw [List.length_replicate]; omega) N.len) (by rw [List.length_replicate, Nat.zero_add])) rfl .nil))) fun vs s₅ rv S₅ => ?_)
    refine wpAny_mono (in1_ok (al := al) B1 FN1 hn0 hn1 (hB1 al (.head _)) (ndig n a) hpos (by omega) (L := 0) (x := a) (ys := List.replicate (ndig n a) (.int 0)) hA (by omega) S₅.f.g S₅.f.low (.head _) (Clo.of S₅.f (fun y c e => ?_) fun y d e => ?_) (S₅.fo.o _ (.head _)).1 (lt_ndig hn0 a) (by simp) (by simp; omega) ?_) (fun v s₆ ⟨e, K₆, ac₆⟩ => ⟨e, ?_⟩) fun _ _ x => x
    · exact cl_cons rfl (cl_cons rfl (cl_one rfl)) e
    · have hy : y ∈ [("a_digits" : Str), "n", "inner"] := by
        have := lookup_mem e
        simp only [List.mem_cons, List.not_mem_nil, or_false, Prod.mk.injEq] at this
        rcases this with ⟨q, _⟩ | ⟨q, _⟩ | ⟨q, _⟩ <;> subst q <;> simp
      refine ⟨?_, ?_, ?_⟩
      · simp only [List.mem_cons, List.not_mem_nil, or_false] at hy
        rcases hy with q | q | q <;> subst q <;> rfl
      · exact (show ∀ y ∈ [("a_digits" : Str), "n", "inner"], isCellKind (fdI2d.scope.names.lookup y) = true by decide +kernel) y hy
      · exact lk_one (ρ := [("n", .int (n : Int)), ("inner", .raw (.ref f))]) rfl (lk_one rfl (lk_one rfl lk_nil)) y d e
    · replace rv := rps_cons rv; obtain ⟨_, _, rfl, r1, rv⟩ := rv
      replace rv := rps_cons rv; obtain ⟨_, _, rfl, r2, rv⟩ := rv
      replace rv := rps_cons rv; obtain ⟨_, _, rfl, r3, rv⟩ := rv
      (first | obtain ⟨_, rfl⟩ := rp_int rv | obtain ⟨_, rfl⟩ := rp_str rv | obtain rfl := rp_raw rv | obtain rfl := rps_nil rv | cases rv); (first | obtain ⟨_, rfl⟩ := rp_int r1 | obtain ⟨_, rfl⟩ := rp_str r1 | obtain rfl := rp_raw r1 | obtain rfl := rps_nil r1 | cases r1); (first | obtain ⟨_, rfl⟩ := rp_int r2 | obtain ⟨_, rfl⟩ := rp_str r2 | obtain rfl := rp_raw r2 | obtain rfl := rps_nil r2 | cases r2); (first | obtain ⟨_, rfl⟩ := rp_int r3 | obtain ⟨_, rfl⟩ := rp_str r3 | obtain rfl := rp_raw r3 | obtain rfl := rps_nil r3 | cases r3); exact .cons (.int _ _) (.cons (.int _ _) (.cons (.int _ _) .nil))
    · have S₆ := S₅.upd (ω₁ := []) K₆ ac₆
      rw [dset_all, ← Function.comp_def (fun (d : Nat) => D.int (d : Int)) (dig n a), ← List.map_map] at S₆
      exact wpAny_execs_nil (fin (by rfl) S₆)
end
end Mine
end
end
section
set_option Elab.async false
noncomputable section
open PySem PySem.W PySem.Calls PyProof.Rows
set_option maxRecDepth 100000
set_option linter.unusedVariables false
set_option maxHeartbeats 1000000
namespace Mine
noncomputable def qI2 : Str := ("_digits2int.<locals>.inner" : Str)
noncomputable def fnI2 (clos : List (Str × Addr)) (doc pm : Value) (c' : Addr) (ctv : Value) : FuncData := fnX "inner" qI2 (argsOf (subDef 7 0)) (bodyOf (subDef 7 0)) (scopeOf (subDef 7 0)) clos .none .none doc pm none (.ref c') ctv
theorem fnI2_ok (clos : List (Str × Addr)) (doc pm : Value) (c' : Addr) (ctv : Value) : FnOk (fnI2 clos doc pm c' ctv) (bodyOf (subDef 7 0)) ["L", "R"] :=
  ⟨rfl, rfl, rfl, rfl, rfl, rfl, by decide +kernel, show ∀ n ∈ [("L" : Str), "R"], (scopeOf (subDef 7 0)).names.lookup n = some .local by decide +kernel, show ∀ x ∈ (scopeOf (subDef 7 0)).names, x.2 ≠ .cell by decide +kernel⟩
noncomputable def natD (ds : List Nat) : List D := ds.map fun (d : Nat) => D.int (d : Int)
theorem natD_len (ds : List Nat) : (natD ds).length = ds.length := by simp [natD]
theorem dval_lt {n : Nat} : ∀ {l : List Nat}, (∀ d ∈ l, d < 2 ^ n) → dval n l < 2 ^ (n * l.length)
  | [], _ => by simp [dval]
  | d :: l, h => by
    have ih := dval_lt (n := n) (l := l) fun x hx => h x (.tail _ hx)
    have hd := h d (.head _)
    show d + 2 ^ n * dval n l < 2 ^ (n * (l.length + 1))
    rw [Nat.mul_add, Nat.mul_one, Nat.add_comm (n * l.length) n, Nat.pow_add]
    have : 2 ^ n * (dval n l + 1) ≤ 2 ^ n * 2 ^ (n * l.length) := Nat.mul_le_mul_left _ ih
    rw [Nat.mul_add, Nat.mul_one] at this
    omega
section
variable {w : World} {B₀ : Heap} {mg mb : Str → Option Value}
noncomputable abbrev rhoI2 (ds : List Nat) (n : Nat) (f : Addr) : List (Str × D) := [("digits", .lst (natD ds)), ("n", .int (n : Int)), ("inner", .raw (.ref f))]
theorem rhoI2_key {ds : List Nat} {n : Nat} {f : Addr} {y : Str} {d : D} (e : (rhoI2 ds n f).lookup y = some d) : y ∈ [("digits" : Str), "n", "inner"] := by
  have := lookup_mem e
  simp only [List.mem_cons, List.not_mem_nil, or_false, Prod.mk.injEq] at this
  rcases this with ⟨q, _⟩ | ⟨q, _⟩ | ⟨q, _⟩ <;> subst q <;> simp
theorem in2_ok (B : Base B₀ mg mb) {clos : List (Str × Addr)} {doc pm ctv : Value} {c' f : Addr} (FN : FnAtB B₀ f (fnI2 clos doc pm c' ctv)) {n : Nat} (hn1 : n ≤ 1000) {ds : List Nat} (hds : ∀ d ∈ ds, d < 2 ^ n) (hl : ds.length ≤ 1000) :
    ∀ (k : Nat), 0 < k → ∀ {A : Around} {mu : List Addr} {s : Shared} {E : Value → Shared → Prop} {L : Nat} {vs : List Value}, A.handled = none → A.depth + k + 20 < recursionLimit → Sub B₀ s.heap → Low mu s.heap → Clo B₀ mu s.heap clos (rhoI2 ds n f) → L + k ≤ ds.length → Rps (Hid mu s.heap) vs [.int (L : Int), .int ((L + k : Nat) : Int)] →
      wpAny (model theProg w) A (call (.ref f) vs) (fun v s' => Rp (Hid mu s'.heap) v (.int (dval n ((ds.drop L).take k) : Int)) ∧ Kp s s') E s := by
  intro k
  induction k using Nat.strongRecOn with
  | ind k ih =>
    intro hk0 A mu s E L vs hh hd g low C hL r
    obtain ⟨oc, od, sl, eo⟩ := FN.obj
    refine call_gen (ds := [.int (L : Int), .int ((L + k : Nat) : Int)]) (ρc := rhoI2 ds n f) B (fnI2_ok clos doc pm c' ctv) (g _ _ eo) (code_keeps g FN.code) (by omega) g low C.mem C.inj (fun y d e => ⟨(show ∀ y ∈ [("digits" : Str), "n", "inner"], (scopeOf (subDef 7 0)).names.lookup y = some .free by decide +kernel) y (rhoI2_key e), C.val y d e⟩) (fun A' E' Q' k' => ?_) fun L' s₁ nL K F E => ?_
    · replace r := rps_cons r; obtain ⟨_, _, rfl, r1, r2⟩ := r
      replace r2 := rps_cons r2; obtain ⟨v2, _, rfl, r2, r3⟩ := r2
      (first | obtain ⟨_, rfl⟩ := rp_int r3 | obtain ⟨_, rfl⟩ := rp_str r3 | obtain rfl := rp_raw r3 | obtain rfl := rps_nil r3 | cases r3)
      exact wpAny_of_eq (show bindArgs (fnI2 clos doc pm c' ctv) ⟨[_, v2], []⟩ = pure ([("L" : Str), "R"].zip [_, v2]) from rfl) (k' _ s (Kp.refl s) (.cons r1 (.cons r2 .nil)) rfl)
    have noc : ∀ n' c, (callEnv (fnI2 clos doc pm c' ctv) L' f).kindOf n' = some .cell → (callEnv (fnI2 clos doc pm c' ctv) L' f).cells.lookup n' = some c → c ∈ ([] : List Addr) ∨ s.heap.get? c = none := fun n' c q e => by
      exfalso
      have q' : (scopeOf (subDef 7 0)).names.lookup n' = some .cell := q
      exact (fnI2_ok clos doc pm c' ctv).cell (n', .cell) (mem_of_lookup q') rfl
    have S : St B₀ s [] (callEnv (fnI2 clos doc pm c' ctv) L' f) ([L'] ++ mu) _ [] s₁ := ⟨⟨F, fun _ h => (nomatch h), List.Pairwise.nil⟩, K.kb, .inr nL, noc, fun _ h => (nomatch h)⟩
    have hA : (A.deeper (callEnv (fnI2 clos doc pm c' ctv) L' f)).handled = none := hh
    have hD : (A.deeper (callEnv (fnI2 clos doc pm c' ctv) L' f)).depth + (k - 1) + 20 < recursionLimit := by show A.depth + 1 + (k - 1) + 20 < _; omega
    generalize hA' : A.deeper (callEnv (fnI2 clos doc pm c' ctv) L' f) = A' at *
    show wpAny _ _ (execs (_ :: _) _) _ _ _
    refine wpAny_execs_cons (s_if S (Ts.eq (Ev.add (Ev.name rfl) Ev.cInt) (Ev.name rfl)) fun s₂ S₂ => ?_)
    by_cases q1 : k = 1
    · have e1 : ((L : Int) + 1 == ((L + k : Nat) : Int)) = true := by subst q1; simp
      rw [e1]
      show wpAny _ _ (execs (_ :: _) _) _ _ _
      have hLl : L < ds.length := by omega
      refine wpAny_execs_cons (s_return (d := .int (ds[L] : Int)) S₂ (Ev.idx (Ev.name rfl) (Ev.name (d := .int (L : Int)) rfl) (by omega) (by omega) ?_) fun v s₃ rv S₃ => ?_)
      · rw [Int.toNat_natCast]; simp [natD, hLl]
      · have : dval n ((ds.drop L).take k) = ds[L] := by
          subst q1
          rw [List.drop_eq_getElem_cons hLl]
          show ds[L] + 2 ^ n * dval n (List.take 0 _) = ds[L]
          rw [List.take_zero]; show ds[L] + 2 ^ n * 0 = ds[L]; omega
        rw [this]
        exact S₃.done rv
    · have e1 : ((L : Int) + 1 == ((L + k : Nat) : Int)) = false := by simp; omega
      rw [e1]
      refine wpAny_execs_nil ?_
      have k1 : 0 < k / 2 := by omega
      have k2 : k / 2 < k := by omega
      have fn : FnAt f B₀ := FN.fn
      have clo : ∀ {ρ' : List (Str × D)} {h : Heap}, Frm B₀ (callEnv (fnI2 clos doc pm c' ctv) L' f) ([L'] ++ mu) ρ' h → (∀ y d, (rhoI2 ds n f).lookup y = some d → ρ'.lookup y = some d) → Clo B₀ ([L'] ++ mu) h clos (rhoI2 ds n f) := fun F' h => Clo.of F' (fun _ _ e => e) fun y d e => ⟨rfl, (show ∀ y ∈ [("digits" : Str), "n", "inner"], isCellKind ((scopeOf (subDef 7 0)).names.lookup y) = true by decide +kernel) y (rhoI2_key e), h y d e⟩
      show wpAny _ _ (execs (_ :: _) _) _ _ _
      refine wpAny_execs_cons (s_assign (d := .int ((L + k / 2 : Nat) : Int)) S₂ (Ev.cast (Ev.shr (Ev.add (Ev.name rfl) (Ev.name rfl)) Ev.cInt (by decide)) (by rw [half_int])) (.inl ⟨rfl, rfl⟩) fun s₃ S₃ => ?_)
      show wpAny _ _ (execs (_ :: _) _) _ _ _
      refine wpAny_execs_cons (s_assign (d := .int ((n * (k / 2) : Nat) : Int)) S₃ (Ev.cast (Ev.mul (Ev.sub (Ev.name rfl) (Ev.name rfl)) (Ev.name rfl) (IntMulOk.of_right ?_)) ?_) (.inl ⟨rfl, rfl⟩) fun s₄ S₄ => ?_)
      · rw [intBits_nat]; exact bitL_le (Nat.lt_of_le_of_lt hn1 (by decide))
      · congr 1
        rw [Int.natCast_mul, Int.mul_comm (n : Int)]
        congr 1
        omega
      have nk : n * (k / 2) ≤ 1000 * 1000 := Nat.mul_le_mul hn1 (by omega)
      have nk2 : n * (k - k / 2) ≤ 1000 * 1000 := Nat.mul_le_mul hn1 (by omega)
      have sub : ∀ i j, ∀ d ∈ (ds.drop i).take j, d < 2 ^ n := fun i j d h => hds d (List.mem_of_mem_drop (List.mem_of_mem_take h))
      have hlt := dval_lt (sub (L + k / 2) (k - k / 2))
      have hlen : ((ds.drop (L + k / 2)).take (k - k / 2)).length = k - k / 2 := by rw [List.length_take, List.length_drop]; omega
      rw [hlen] at hlt
      show wpAny _ _ (execs (_ :: _) _) _ _ _
      refine wpAny_execs_cons (s_return (d := .int (dval n ((ds.drop L).take k) : Int)) S₄ (Ev.cast (Ev.add (Ev.shl (a := (dval n ((ds.drop (L + k / 2)).take (k - k / 2)) : Int))
        (Ev.callX (ds := [.int ((L + k / 2 : Nat) : Int), .int ((L + k / 2 + (k - k / 2) : Nat) : Int)]) fn rfl (.cons (Ev.name rfl) rfl (.cons (Ev.cast (Ev.name rfl) (by congr 2; omega)) rfl .nil)) fun us s₅ E ru F₅ => ?_) (Ev.name rfl) (Int.natCast_nonneg _) ?_)
        (Ev.callX (d := .int (dval n ((ds.drop L).take (k / 2)) : Int)) (ds := [.int (L : Int), .int ((L + k / 2 : Nat) : Int)]) fn rfl (.cons (Ev.name rfl) rfl (.cons (Ev.name rfl) rfl .nil)) fun us s₅ E ru F₅ => ?_)) ?_) fun v s₅ rv S₅ => S₅.done rv)
      · exact ih (k - k / 2) (by omega) (by omega) hA (by omega) F₅.g F₅.low (clo F₅ (lk_one rfl (lk_one rfl (lk_one rfl lk_nil)))) (by omega) ru
      · rw [intBits_nat]; have := bitL_le hlt; omega
      · exact ih (k / 2) k2 k1 hA (by omega) F₅.g F₅.low (clo F₅ (lk_one rfl (lk_one rfl (lk_one rfl lk_nil)))) (by omega) ru
      · rw [Int.toNat_natCast]
        have e : (ds.drop L).take k = (ds.drop L).take (k / 2) ++ (ds.drop (L + k / 2)).take (k - k / 2) := by
          have h := List.take_add (l := ds.drop L) (i := k / 2) (j := k - k / 2)
          rw [List.drop_drop] at h
          have : k / 2 + (k - k / 2) = k := by omega
          rw [this] at h
          exact h
        rw [e, dval_append, List.length_take, List.length_drop]
        have : min (k / 2) (ds.length - L) = k / 2 := by omega
        rw [this]
        congr 1
        push_cast
        rw [Int.mul_comm, Int.add_comm]
end
noncomputable def fdD2i : FuncData := fdOf 65 (.str (Str.ofString "cpy313._pylong") 289) (topStmt 7)
noncomputable def posI2 : Pos := ⟨51, 4, 56, 55⟩
theorem qual_I2 (L : Addr) : qualnameIn (callEnvC fdD2i L 66) "inner" "inner" = qI2 :=
  show (if (fdD2i.scope.names.lookup ("inner" : Str) == some .globalExplicit) = true then ("inner" : Str) else (fdD2i.qualname ++ ".<locals>.") ++ "inner") = qI2 by decide +kernel
section
variable {w : World} {B₀ : Heap} {mg mb : Str → Option Value} {A : Around} {mu : List Addr}
theorem d2i_ok (B : Base B₀ mg mb) (N : Nms mg mb) (X : Def B₀ 66 fdD2i (bodyOf (topStmt 7)) ["digits", "n"]) (TB : TabOk B₀ 65 61 posI2 qI2) (bm : B₀.BuiltinsAt mg 61) {ds : List Nat} {n : Nat} (hn1 : n ≤ 1000) (hds : ∀ d ∈ ds, d < 2 ^ n) (hl : ds.length ≤ 500) (hh : A.handled = none) (hd : A.depth + 560 < recursionLimit) {s : Shared} {E : Value → Shared → Prop} {us : List Value}
    (g : Sub B₀ s.heap) (low : Low mu s.heap) (hmu : ∀ b ∈ mu, B₀.get? b = none) (r : Rps (Hid mu s.heap) us [.lst (natD ds), .int (n : Int)]) :
    wpAny (model theProg w) A (call (.ref 66) us) (fun v s' => Rp (Hid mu s'.heap) v (.int (dval n ds : Int)) ∧ KB [61] s s' ∧ TabOk (Hid mu s'.heap) 65 61 posI2 qI2) E s := by
  refine call_st B X (by omega) g low r (by rw [r.length]; rfl) ?_ fun s₁ S E => ?_
  · replace r := rps_cons r; obtain ⟨_, _, rfl, r1, r2⟩ := r
    replace r2 := rps_cons r2; obtain ⟨_, _, rfl, r2, r3⟩ := r2
    (first | obtain ⟨_, rfl⟩ := rp_int r3 | obtain ⟨_, rfl⟩ := rp_str r3 | obtain rfl := rp_raw r3 | obtain rfl := rps_nil r3 | cases r3); rfl
  have hA : (A.deeper (callEnvC fdD2i s.heap.objs.size 66)).handled = none := hh
  have hdep : (A.deeper (callEnvC fdD2i s.heap.objs.size 66)).depth + 540 < recursionLimit := by show A.depth + 1 + 540 < _; omega
  have hbM : ∀ b ∈ frameAt fdD2i s.heap.objs.size ++ mu, B₀.get? b = none := fun b hm => by
    rcases List.mem_append.mp hm with hm | hm
    · cases z : B₀.get? b with
      | none => rfl
      | some o => have := g _ _ z; rw [frame_fresh fdD2i s.heap b hm] at this; cases this
    · exact hmu b hm
  generalize hL : s.heap.objs.size = L at *
  generalize hA' : A.deeper (callEnvC fdD2i L 66) = A' at *
  show wpAny _ _ (execs (_ :: _) _) _ _ _
  refine wpAny_execs_cons (s_def (qual := qI2) (c := 65) (P := 61) (clos := [("n", L + 2), ("inner", L + 3), ("digits", L + 1)]) (mg := mg) (mb := mb) S hbM B TB bm rfl rfl rfl (.inr ⟨rfl, rfl⟩) (fun B₁ s₃ f c' ctv doc k1 hB1 TB1 FN S₃ => ?_) (qual_I2 L))
  have B1 := B.monoB k1 (by decide) (by decide) (by decide)
  have FN1 : FnAtB B₁ f (fnI2 [("n", L + 2), ("inner", L + 3), ("digits", L + 1)] doc ((mg "__name__").getD .none) c' ctv) := FN
  have hnl : (natD ds).length = ds.length := natD_len ds
  show wpAny _ _ (execs (_ :: _) _) _ _ _
  refine wpAny_execs_cons (s_return (d := .int (dval n ds : Int)) S₃ (Ev.ite (Ts.lstT (Ev.name rfl) (by omega)) (fun hc => ?_) (fun hc => ?_)) fun v s₄ rv S₄ => ?_)
  · refine Ev.callX (ds := [.int ((0 : Nat) : Int), .int ((0 + ds.length : Nat) : Int)]) FN1.fn rfl (.cons Ev.cInt rfl (.cons (Ev.cast (Ev.lenL B1 (Ev.name rfl) (by omega) N.len) (by rw [hnl, Nat.zero_add])) rfl .nil)) fun us s₅ E ru F₅ => ?_
    have hp : 0 < ds.length := by
      cases ds with
      | nil => simp [natD] at hc
      | cons _ _ => simp
    have := in2_ok (w := w) (E := E) B1 FN1 hn1 hds (by omega) ds.length hp (L := 0) (s := s₅) (vs := us) hA (by omega) F₅.g F₅.low (Clo.of F₅ (fun y c e => ?_) fun y d e => ⟨?_, ?_, ?_⟩) (by omega) ru
    · rw [List.drop_zero, List.take_length] at this
      exact this
    · exact cl_cons rfl (cl_cons rfl (cl_one rfl)) e
    · have hy := rhoI2_key e
      simp only [List.mem_cons, List.not_mem_nil, or_false] at hy
      rcases hy with q | q | q <;> subst q <;> rfl
    · exact (show ∀ y ∈ [("digits" : Str), "n", "inner"], isCellKind (fdD2i.scope.names.lookup y) = true by decide +kernel) y (rhoI2_key e)
    · exact lk_one rfl (lk_one rfl (lk_one rfl lk_nil)) y d e
  · have : ds = [] := by
      cases ds with
      | nil => rfl
      | cons _ _ => simp [natD] at hc
    subst this
    exact Ev.cInt
  · obtain ⟨h1, h2⟩ := S₄.doneB rv
    exact ⟨h1, h2, TB1.mono fun b o e => hid_of (fun q => by rw [hB1 b (List.mem_append_right _ q)] at e; cases e) (S₄.f.g _ _ e)⟩
end
end Mine
end
end
section
set_option Elab.async false
noncomputable section
open PySem PySem.W PySem.Calls PyProof.Rows
set_option maxRecDepth 100000
set_option linter.unusedVariables false
set_option maxHeartbeats 1000000
namespace Mine
theorem TabOk.skip {h h' : Heap} {c P c₂ P₂ : Addr} {pos pos₂ : Pos} {qual qual₂ : Str} (x : TabOk h c P pos qual) (y : TabOk h c₂ P₂ pos₂ qual₂) (k : SubB [P₂] h h') (n1 : P ≠ P₂) (n2 : c ≠ P₂) : TabOk h' c P pos qual :=
  x.other k n1 n2 fun o e => by
    obtain ⟨ps, e2, r⟩ := y.tab
    rw [e2] at e; cases e
    refine ⟨rfl, ps, rfl, ?_, ?_⟩
    · rcases r with rfl | ⟨c', rfl, _⟩ <;> simp
    · rcases r with rfl | ⟨c', rfl, _⟩
      · intro y t; simp
      · intro y t; simp [rawInt]
noncomputable abbrev TT : List Addr := [54, 61]
/-- what a call gives that may turn the two tables -/
noncomputable def PostT (mu : List Addr) (d : D) (s : Shared) (v : Value) (s' : Shared) : Prop :=
  Rp (Hid mu s'.heap) v d ∧ KB TT s s' ∧ TabOk (Hid mu s'.heap) 58 54 posI1 qI1 ∧ TabOk (Hid mu s'.heap) 65 61 posI2 qI2
noncomputable def fdDiv : FuncData := fdOf 44 (.str (Str.ofString "cpy313._pylong") 289) (topStmt 4)
noncomputable def fdDmp : FuncData := fdOf 72 (.str (Str.ofString "cpy313._pylong") 289) (topStmt 8)
noncomputable def fdIdm : FuncData := fdOf 79 (.str (Str.ofString "cpy313._pylong") 289) (topStmt 9)
structure IntF (B₀ : Heap) (mg mb : Str → Option Value) : Prop where
  lim : ∃ t, Glb mg mb "_DIV_LIMIT" (.int 4000 t)
  dm : Glb mg mb "divmod" (.builtin "divmod")
  rv : Glb mg mb "reversed" (.type "reversed")
  g1 : Glb mg mb "_div2n1n" (.ref 45)
  g2 : Glb mg mb "_int2digits" (.ref 59)
  g3 : Glb mg mb "_digits2int" (.ref 66)
  g4 : Glb mg mb "_divmod_pos" (.ref 73)
  g5 : Glb mg mb "int_divmod" (.ref 80)
  d1 : Def B₀ 45 fdDiv (bodyOf (topStmt 4)) ["a", "b", "n"]
  d2 : Def B₀ 59 fdI2d (bodyOf (topStmt 6)) ["a", "n"]
  d3 : Def B₀ 66 fdD2i (bodyOf (topStmt 7)) ["digits", "n"]
  d4 : Def B₀ 73 fdDmp (bodyOf (topStmt 8)) ["a", "b"]
  d5 : Def B₀ 80 fdIdm (bodyOf (topStmt 9)) ["a", "b"]
  t1 : TabOk B₀ 58 54 posI1 qI1
  t2 : TabOk B₀ 65 61 posI2 qI2
  bm : ∃ bm o, mg "__builtins__" = some (.ref bm) ∧ bm ≠ builtinsNs ∧ bm ≠ mainGlobals ∧ bm ∉ TT ∧ B₀.get? bm = some o ∧ o.cls = .type "module" ∧ o.dict = some builtinsNs ∧ o.data = .plain
theorem Def.fn {B₀ : Heap} {a : Addr} {fd : FuncData} {body : List Stmt} {names : List Str} (X : Def B₀ a fd body names) : FnAt a B₀ := let ⟨oc, od, sl, e⟩ := X.obj; ⟨oc, od, fd, sl, e⟩
theorem IntF.monoB {B₀ B₁ : Heap} {mg mb : Str → Option Value} (I : IntF B₀ mg mb) (k : SubB TT B₀ B₁) (t1 : TabOk B₁ 58 54 posI1 qI1) (t2 : TabOk B₁ 65 61 posI2 qI2) : IntF B₁ mg mb :=
  ⟨I.lim, I.dm, I.rv, I.g1, I.g2, I.g3, I.g4, I.g5, I.d1.monoB k (by decide) (fun c e => by cases e; decide), I.d2.monoB k (by decide) (fun c e => by cases e; decide), I.d3.monoB k (by decide) (fun c e => by cases e; decide), I.d4.monoB k (by decide) (fun c e => by cases e; decide), I.d5.monoB k (by decide) (fun c e => by cases e; decide), t1, t2,
    let ⟨bm, o, h1, h2, h3, h4, h5, h6⟩ := I.bm; ⟨bm, o, h1, h2, h3, h4, k _ _ h4 h5, h6⟩⟩
theorem IntF.mono {B₀ B₁ : Heap} {mg mb : Str → Option Value} (I : IntF B₀ mg mb) (k : Sub B₀ B₁) : IntF B₁ mg mb := I.monoB k.b (I.t1.mono k) (I.t2.mono k)
theorem IntF.b1 {B₀ : Heap} {mg mb : Str → Option Value} (I : IntF B₀ mg mb) : B₀.BuiltinsAt mg 54 := let ⟨bm, o, h1, h2, h3, h4, h5⟩ := I.bm; ⟨bm, o, h1, h2, h3, fun q => h4 (by simp [q]), h5⟩
theorem IntF.b2 {B₀ : Heap} {mg mb : Str → Option Value} (I : IntF B₀ mg mb) : B₀.BuiltinsAt mg 61 := let ⟨bm, o, h1, h2, h3, h4, h5⟩ := I.bm; ⟨bm, o, h1, h2, h3, fun q => h4 (by simp [q]), h5⟩
theorem IntF.noCls {B₀ : Heap} {mg mb : Str → Option Value} (I : IntF B₀ mg mb) {h : Heap} (g : Sub B₀ h) : ∀ c ∈ TT, ∀ o, h.get? c = some o → o.cls = .none := fun c hc o e => by
  have one : ∀ {c P : Addr} {pos : Pos} {q : Str}, TabOk B₀ c P pos q → ∀ o, h.get? P = some o → o.cls = .none := fun t o e => by
    obtain ⟨ps, e2, _⟩ := t.tab
    rw [g _ _ e2] at e; cases e; rfl
  simp only [TT, List.mem_cons, List.not_mem_nil, or_false] at hc
  rcases hc with q | q <;> subst q
  · exact one I.t1 o e
  · exact one I.t2 o e
theorem IntF.out {B₀ : Heap} {mg mb : Str → Option Value} (I : IntF B₀ mg mb) {mu : List Addr} (hmu : ∀ b ∈ mu, B₀.get? b = none) : ∀ c ∈ TT, c ∉ mu := fun c hc q => by
  have one : ∀ {c P : Addr} {pos : Pos} {q : Str}, TabOk B₀ c P pos q → B₀.get? P ≠ none := fun t e => by
    obtain ⟨ps, e2, _⟩ := t.tab
    rw [e2] at e; cases e
  simp only [TT, List.mem_cons, List.not_mem_nil, or_false] at hc
  rcases hc with z | z <;> subst z
  · exact one I.t1 (hmu _ q)
  · exact one I.t2 (hmu _ q)
section
variable {prog : Program} {w : World} {B₀ B₁ : Heap} {A : Around} {env : Env} {MU mu md : List Addr} {ρ : List (Str × D)} {ω : List (Addr × List D)} {s₀ s s' : Shared} {E : Value → Shared → Prop} {mg mb : Str → Option Value} {pos : Pos}
theorem SubB_of (g : Sub B₀ s.heap) (hmu : ∀ b ∈ mu, B₀.get? b = none) {T : List Addr} (K : KB T s s') : SubB T B₀ (Hid mu s'.heap) := fun b o n e =>
  hid_of (fun q => by rw [hmu b q] at e; cases e) (K.sub b o n (g _ _ e))
theorem Ev.glbI (B : Base B₀ mg mb) {x : Str} {i : Int} {t : Tok} {np : Pos} (hg : Glb mg mb x (.int i t)) (hk : env.kindOf x = some .globalImplicit := by rfl) (hd : (x == ("__debug__" : Str)) = false := by decide +kernel) : Ev prog w B₀ A env MU ρ (.Name x np) (.int i) := fun s E F =>
  loadGlb B F hg hk ⟨.int _ _, Kp.refl s⟩ hd
/-- a call that may turn the two tables -/
theorem evT (B : Base B₀ mg mb) (I : IntF B₀ mg mb) {fn : Str} {f : Addr} {es : List Expr} {ds : List D} {d : D} {np : Pos} {Q : Value → Shared → Prop} (S : St B₀ s₀ md env MU ρ ω s) (hbM : ∀ b ∈ MU, B₀.get? b = none) (hg : Glb mg mb fn (.ref f)) (FN : FnAt f B₀) (hes : Evs prog w B₀ A env MU ρ es ds)
    (hcall : ∀ vs s' E, Rps (Hid MU s'.heap) vs ds → Sub B₀ s'.heap → Low MU s'.heap → wpAny (model prog w) A (call (.ref f) vs) (PostT MU d s') E s')
    (h : ∀ B₁ v s₁, SubB TT B₀ B₁ → Base B₁ mg mb → IntF B₁ mg mb → (∀ b ∈ MU, B₁.get? b = none) → Rp (Hid MU s₁.heap) v d → St B₁ s₀ (TT ++ md) env MU ρ ω s₁ → Q v s₁)
    (hk : env.kindOf fn = some .globalImplicit := by rfl) (hd : (fn == ("__debug__" : Str)) = false := by decide +kernel) :
    wpAny (model prog w) A (eval (.Call (.Name fn np) es [] pos) env) Q E s :=
  wpAny_Call_NameR (loadGlb B S.f hg hk (CW.fn FN A env MU ρ pos es ds _ E s S.f hes fun vs s₁ r K => by
    have S₁ := S.kp K
    refine wpAny_mono (hcall vs s₁ E r S₁.f.g S₁.f.low) (fun v s₂ ⟨rv, K₂, t1, t2⟩ => ?_) fun _ _ x => x
    have k := SubB_of S₁.f.g hbM K₂
    refine h _ v s₂ k (B.monoB k (by decide) (by decide) (by decide)) (I.monoB k t1 t2) (fun b hm => hideAll_none _ hm) rv (S₁.turnT K₂ (I.out hbM) (I.noCls S₁.f.g))) hd)
theorem s_assignT (B : Base B₀ mg mb) (I : IntF B₀ mg mb) {fn x : Str} {f a : Addr} {es : List Expr} {ds : List D} {d : D} {np px cpos : Pos} {Q : Flow → Shared → Prop} (S : St B₀ s₀ md env MU ρ ω s) (hbM : ∀ b ∈ MU, B₀.get? b = none) (hg : Glb mg mb fn (.ref f)) (FN : FnAt f B₀) (hes : Evs prog w B₀ A env MU ρ es ds) (T : SlotOf env x a)
    (hcall : ∀ vs s' E, Rps (Hid MU s'.heap) vs ds → Sub B₀ s'.heap → Low MU s'.heap → wpAny (model prog w) A (call (.ref f) vs) (PostT MU d s') E s')
    (h : ∀ B₁ s₁, SubB TT B₀ B₁ → Base B₁ mg mb → IntF B₁ mg mb → (∀ b ∈ MU, B₁.get? b = none) → St B₁ s₀ (TT ++ md) env MU ((x, d) :: ρ) ω s₁ → Q .next s₁)
    (hk : env.kindOf fn = some .globalImplicit := by rfl) (hd : (fn == ("__debug__" : Str)) = false := by decide +kernel) (hs : swapsWith (.Call (.Name fn np) es [] cpos) (some (.Name x px)) pos.line env = pure false := by rfl) :
    wpAny (model prog w) A (exec (.Assign [.Name x px] (.Call (.Name fn np) es [] cpos) pos) env) Q E s :=
  wpAny_Assign_Name (evT B I S hbM hg FN hes hcall (fun B₁ v s₁ k B' I' hb rv S₁ => S₁.store T rv fun s₂ S₂ => h B₁ s₂ k B' I' hb S₂) hk hd) hs
theorem s_pairT (B : Base B₀ mg mb) (I : IntF B₀ mg mb) {fn x y : Str} {f a b : Addr} {es : List Expr} {ds : List D} {d d' : D} {np p1 p2 tp cpos : Pos} {k : Nat} {Q : Flow → Shared → Prop} (S : St B₀ s₀ md env MU ρ ω s) (hbM : ∀ b ∈ MU, B₀.get? b = none) (hh : A.handled = none) (hg : Glb mg mb fn (.ref f)) (FN : FnAt f B₀) (hes : Evs prog w B₀ A env MU ρ es ds) (T1 : SlotOf env x a) (T2 : SlotOf env y b)
    (hcall : ∀ vs s' E, Rps (Hid MU s'.heap) vs ds → Sub B₀ s'.heap → Low MU s'.heap → wpAny (model prog w) A (call (.ref f) vs) (PostT MU (.tup [d, d']) s') E s')
    (h : ∀ B₁ s₁, SubB TT B₀ B₁ → Base B₁ mg mb → IntF B₁ mg mb → (∀ b ∈ MU, B₁.get? b = none) → St B₁ s₀ (TT ++ md) env MU ((y, d') :: (x, d) :: ρ) ω s₁ → Q .next s₁)
    (hk : env.kindOf fn = some .globalImplicit := by rfl) (hd : (fn == ("__debug__" : Str)) = false := by decide +kernel)
    (hs : swapsWithSole [.Tuple [.Name x p1, .Name y p2] k tp] (.Call (.Name fn np) es [] cpos) pos.line env = pure false := by rfl) (hw : swappedStores [.Tuple [.Name x p1, .Name y p2] k tp] (.Call (.Name fn np) es [] cpos) env = pure none := by rfl) :
    wpAny (model prog w) A (exec (.Assign [.Tuple [.Name x p1, .Name y p2] k tp] (.Call (.Name fn np) es [] cpos) pos) env) Q E s :=
  Assign_Tuple (evT B I S hbM hg FN hes hcall (fun B₁ v s₁ k B' I' hb rv S₁ => S₁.asT (AsT.pair T1 T2) (fun c hc => by
    simp only [List.mem_cons, List.not_mem_nil, or_false] at hc
    rcases hc with rfl | rfl
    · rcases T1 with ⟨_, e⟩ | ⟨k, e⟩
      · exact .inl e
      · exact .inr ⟨_, k, e⟩
    · rcases T2 with ⟨_, e⟩ | ⟨k, e⟩
      · exact .inl e
      · exact .inr ⟨_, k, e⟩) hh rv fun s₂ S₂ => h B₁ s₂ k B' I' hb S₂) hk hd) hs hw
theorem s_returnT (B : Base B₀ mg mb) (I : IntF B₀ mg mb) {fn : Str} {f : Addr} {es : List Expr} {ds : List D} {d : D} {np cpos : Pos} {Q : Flow → Shared → Prop} (S : St B₀ s₀ md env MU ρ ω s) (hbM : ∀ b ∈ MU, B₀.get? b = none) (hg : Glb mg mb fn (.ref f)) (FN : FnAt f B₀) (hes : Evs prog w B₀ A env MU ρ es ds)
    (hcall : ∀ vs s' E, Rps (Hid MU s'.heap) vs ds → Sub B₀ s'.heap → Low MU s'.heap → wpAny (model prog w) A (call (.ref f) vs) (PostT MU d s') E s')
    (h : ∀ B₁ v s₁, IntF B₁ mg mb → (∀ b ∈ MU, B₁.get? b = none) → Rp (Hid MU s₁.heap) v d → St B₁ s₀ (TT ++ md) env MU ρ ω s₁ → Q (.ret v) s₁)
    (hk : env.kindOf fn = some .globalImplicit := by rfl) (hd : (fn == ("__debug__" : Str)) = false := by decide +kernel) :
    wpAny (model prog w) A (exec (.Return (some (.Call (.Name fn np) es [] cpos)) pos) env) Q E s :=
  wpAny_Return_some (evT B I S hbM hg FN hes hcall (fun B₁ v s₁ k B' I' hb rv S₁ => h B₁ v s₁ I' hb rv S₁) hk hd)
/-- a body's end -/
theorem St.doneT {fr : List Addr} {v : Value} {d : D} (I : IntF B₀ mg mb) (hb : ∀ b ∈ fr ++ mu, B₀.get? b = none) (S : St B₀ s₀ md env (fr ++ mu) ρ ω s) (hmd : ∀ b ∈ md, b ∈ TT) (r : Rp (Hid (fr ++ mu) s.heap) v d) : PostT mu d s₀ v s := by
  obtain ⟨h1, h2⟩ := S.doneB r
  have k : Sub B₀ (Hid mu s.heap) := fun b o e => hid_of (fun q => by rw [hb b (List.mem_append_right _ q)] at e; cases e) (S.f.g _ _ e)
  exact ⟨h1, h2.mono hmd, I.t1.mono k, I.t2.mono k⟩
end
section
variable {w : World} {B₀ : Heap} {mg mb : Str → Option Value} {A : Around} {mu : List Addr}
theorem i2dT (B : Base B₀ mg mb) (N : Nms mg mb) (I : IntF B₀ mg mb) {a n : Nat} (hn0 : 0 < n) (hn1 : n ≤ 1000) (hk : ndig n a ≤ 500) (hh : A.handled = none) (hd : A.depth + 560 < recursionLimit) {s : Shared} {E : Value → Shared → Prop} {us : List Value}
    (g : Sub B₀ s.heap) (low : Low mu s.heap) (hmu : ∀ b ∈ mu, B₀.get? b = none) (r : Rps (Hid mu s.heap) us [.int (a : Int), .int (n : Int)]) :
    wpAny (model theProg w) A (call (.ref 59) us) (PostT mu (digD n a) s) E s :=
  wpAny_mono (i2d_ok B N I.d2 I.t1 I.b1 hn0 hn1 hk hh hd g low hmu r) (fun v s' ⟨h1, h2, h3⟩ => ⟨h1, h2.mono (by simp), h3, I.t2.skip I.t1 (SubB_of g hmu h2) (by decide) (by decide)⟩) fun _ _ x => x
theorem d2iT (B : Base B₀ mg mb) (N : Nms mg mb) (I : IntF B₀ mg mb) {ds : List Nat} {n : Nat} (hn1 : n ≤ 1000) (hds : ∀ d ∈ ds, d < 2 ^ n) (hl : ds.length ≤ 500) (hh : A.handled = none) (hd : A.depth + 560 < recursionLimit) {s : Shared} {E : Value → Shared → Prop} {us : List Value}
    (g : Sub B₀ s.heap) (low : Low mu s.heap) (hmu : ∀ b ∈ mu, B₀.get? b = none) (r : Rps (Hid mu s.heap) us [.lst (natD ds), .int (n : Int)]) :
    wpAny (model theProg w) A (call (.ref 66) us) (PostT mu (.int (dval n ds : Int)) s) E s :=
  wpAny_mono (d2i_ok B N I.d3 I.t2 I.b2 hn1 hds hl hh hd g low hmu r) (fun v s' ⟨h1, h2, h3⟩ => ⟨h1, h2.mono (by simp), I.t1.skip I.t2 (SubB_of g hmu h2) (by decide) (by decide), h3⟩) fun _ _ x => x
theorem div_ok (B : Base B₀ mg mb) (I : IntF B₀ mg mb) {a b n : Nat} (hb0 : 0 < b) (hb1 : b < 2 ^ 1000) (ha : bitL a ≤ n + 4000) (hh : A.handled = none) (hd : A.depth + 20 < recursionLimit) {s : Shared} {E : Value → Shared → Prop} {us : List Value}
    (g : Sub B₀ s.heap) (low : Low mu s.heap) (r : Rps (Hid mu s.heap) us [.int (a : Int), .int (b : Int), .int (n : Int)]) :
    wpAny (model theProg w) A (call (.ref 45) us) (fun v s' => Rp (Hid mu s'.heap) v (.tup [.int ((a / b : Nat) : Int), .int ((a % b : Nat) : Int)]) ∧ Kp s s') E s := by
  refine call_st B I.d1 (by omega) g low r (by rw [r.length]; rfl) ?_ fun s₁ S E => ?_
  · replace r := rps_cons r; obtain ⟨_, _, rfl, r1, r2⟩ := r
    replace r2 := rps_cons r2; obtain ⟨_, _, rfl, r2, r3⟩ := r2
    replace r3 := rps_cons r3; obtain ⟨_, _, rfl, r3, r4⟩ := r3
    (first | obtain ⟨_, rfl⟩ := rp_int r4 | obtain ⟨_, rfl⟩ := rp_str r4 | obtain rfl := rp_raw r4 | obtain rfl := rps_nil r4 | cases r4); rfl
  generalize hL : s.heap.objs.size = L at *
  generalize hA' : A.deeper (callEnvC fdDiv L 45) = A' at *
  obtain ⟨t, hlim⟩ := I.lim
  show wpAny _ _ (execs (_ :: _) _) _ _ _
  refine wpAny_execs_cons (s_if S (Ts.le (Ev.sub (Ev.bitLen (Ev.name rfl)) (Ev.name rfl)) (Ev.glbI B hlim)) fun s₂ S₂ => ?_)
  have e1 : decide ((Builtin.Int.intBits (a : Int) : Int) - (n : Int) ≤ 4000) = true := decide_eq_true (by rw [intBits_nat]; omega)
  rw [e1]
  show wpAny _ _ (execs (_ :: _) _) _ _ _
  refine wpAny_execs_cons (s_return S₂ (Ev.cast (Ev.divmod B I.dm (Ev.name rfl) (Ev.name (d := .int (b : Int)) rfl) (by omega) (noPy ?_)) ?_) fun v s₃ rv S₃ => S₃.done rv)
  · exact Nat.lt_of_lt_of_le hb1 (Nat.pow_le_pow_right (by decide) (by decide))
  · rw [Int.fdiv_eq_ediv_of_nonneg _ (Int.natCast_nonneg _), Int.fmod_eq_emod_of_nonneg _ (Int.natCast_nonneg _), ← Int.natCast_ediv, ← Int.natCast_emod]
end
end Mine
end
end
section
set_option Elab.async false
noncomputable section
open PySem PySem.W PySem.Calls PyProof.Rows
set_option maxRecDepth 100000
set_option linter.unusedVariables false
set_option maxHeartbeats 1000000
set_option exponentiation.threshold 10
namespace Mine
theorem ndig_le {n : Nat} (hn : 0 < n) (a : Nat) : ndig n a ≤ bitL a := by
  unfold ndig
  rcases Nat.eq_zero_or_pos (bitL a) with h | h
  · rw [h, Nat.div_eq_of_lt (by omega)]; omega
  · refine Nat.div_le_of_le_mul ?_
    have : n * bitL a = (n - 1) * (bitL a - 1) + n + bitL a - 1 := by
      obtain ⟨m, rfl⟩ : ∃ m, n = m + 1 := ⟨n - 1, by omega⟩
      obtain ⟨k, e⟩ : ∃ k, bitL a = k + 1 := ⟨bitL a - 1, by omega⟩
      rw [e, Nat.add_mul, Nat.mul_add]
      simp
      omega
    omega
theorem dp_dig {n b r d : Nat} (hr : r < b) (hd : d < 2 ^ n) : r * 2 ^ n + d < b * 2 ^ n := by
  have : (r + 1) * 2 ^ n ≤ b * 2 ^ n := Nat.mul_le_mul_right _ hr
  rw [Nat.add_mul, Nat.one_mul] at this
  omega
theorem dp_small {n b : Nat} (hb : 0 < b) {ds : List Nat} (hds : ∀ d ∈ ds, d < 2 ^ n) : ∀ i, ∀ q ∈ (dpAt n b ds i).1, q < 2 ^ n
  | 0 => by simp [dpAt]
  | i + 1 => by
    cases e : ds[i]? with
    | none =>
      have : dpAt n b ds (i + 1) = dpAt n b ds i := by unfold dpAt; rw [List.take_add_one, e]; simp
      rw [this]; exact dp_small hb hds i
    | some d =>
      rw [dpAt_succ e]
      intro q hq
      rcases List.mem_append.mp hq with hq | hq
      · exact dp_small hb hds i q hq
      · rw [List.mem_singleton] at hq; subst hq
        exact Nat.div_lt_of_lt_mul (dp_dig (dp_lt hb ds i) (hds d (List.mem_of_getElem? e)))
section
variable {w : World} {B₀ : Heap} {mg mb : Str → Option Value} {A : Around} {mu : List Addr}
theorem frame_out {fd : FuncData} {h : Heap} (g : Sub B₀ h) (hmu : ∀ b ∈ mu, B₀.get? b = none) : ∀ b ∈ frameAt fd h.objs.size ++ mu, B₀.get? b = none := fun b hm => by
  rcases List.mem_append.mp hm with hm | hm
  · cases z : B₀.get? b with
    | none => rfl
    | some o => have := g _ _ z; rw [frame_fresh fd h b hm] at this; cases this
  · exact hmu b hm
theorem dmp_ok (B : Base B₀ mg mb) (N : Nms mg mb) (I : IntF B₀ mg mb) {a b : Nat} (hb0 : 0 < b) (hb1 : b < 2 ^ 500) (ha : a < 2 ^ 500) (hh : A.handled = none) (hd : A.depth + 600 < recursionLimit) {s : Shared} {E : Value → Shared → Prop} {us : List Value}
    (g : Sub B₀ s.heap) (low : Low mu s.heap) (hmu : ∀ b ∈ mu, B₀.get? b = none) (r : Rps (Hid mu s.heap) us [.int (a : Int), .int (b : Int)]) :
    wpAny (model theProg w) A (call (.ref 73) us) (PostT mu (.tup [.int ((a / b : Nat) : Int), .int ((a % b : Nat) : Int)]) s) E s := by
  refine call_st B I.d4 (by omega) g low r (by rw [r.length]; rfl) ?_ fun s₁ S E => ?_
  · replace r := rps_cons r; obtain ⟨_, _, rfl, r1, r2⟩ := r
    replace r2 := rps_cons r2; obtain ⟨_, _, rfl, r2, r3⟩ := r2
    (first | obtain ⟨_, rfl⟩ := rp_int r3 | obtain ⟨_, rfl⟩ := rp_str r3 | obtain rfl := rp_raw r3 | obtain rfl := rps_nil r3 | cases r3); rfl
  have hA : (A.deeper (callEnvC fdDmp s.heap.objs.size 73)).handled = none := hh
  have hdep : (A.deeper (callEnvC fdDmp s.heap.objs.size 73)).depth + 580 < recursionLimit := by show A.depth + 1 + 580 < _; omega
  have hbM := frame_out (fd := fdDmp) g hmu
  generalize hL : s.heap.objs.size = L at *
  generalize hA' : A.deeper (callEnvC fdDmp L 73) = A' at *
  have n0 : 0 < bitL b := bitL_pos hb0
  have n1 : bitL b ≤ 500 := bitL_le hb1
  have hbn : b < 2 ^ bitL b := lt_bitL b
  have hk : ndig (bitL b) a ≤ 500 := Nat.le_trans (ndig_le n0 a) (bitL_le ha)
  show wpAny _ _ (execs (_ :: _) _) _ _ _
  refine wpAny_execs_cons (s_assign (d := .int ((bitL b : Nat) : Int)) S (Ev.cast (Ev.bitLen (Ev.name rfl)) (by rw [intBits_nat])) (.inl ⟨rfl, rfl⟩) fun s₂ S₂ => ?_)
  show wpAny _ _ (execs (_ :: _) _) _ _ _
  refine wpAny_execs_cons (s_assignT (d := digD (bitL b) a) (ds := [.int (a : Int), .int ((bitL b : Nat) : Int)]) B I S₂ hbM I.g2 I.d2.fn (.cons (Ev.name rfl) rfl (.cons (Ev.name rfl) rfl .nil)) (.inl ⟨rfl, rfl⟩) (fun vs s' E ru g' low' => i2dT B N I n0 (by omega) hk hA (by omega) g' low' hbM ru) fun B₁ s₃ k1 B1 I1 hb1' S₃ => ?_)
  show wpAny _ _ (execs (_ :: _) _) _ _ _
  refine wpAny_execs_cons (s_assign (d := .int ((0 : Nat) : Int)) S₃ Ev.cInt (.inl ⟨rfl, rfl⟩) fun s₄ S₄ => ?_)
  show wpAny _ _ (execs (_ :: _) _) _ _ _
  refine wpAny_execs_cons (s_new S₄ (EvN.list .nil (sz (by simp))) (.inl ⟨rfl, rfl⟩) fun ql s₅ hq S₅ => ?_)
  show wpAny _ _ (execs (_ :: _) _) _ _ _
  generalize hn : bitL b = n at *
  let rds := (digs n a).reverse
  have hrd : ∀ d ∈ rds, d < 2 ^ n := fun d hd => by
    have : d ∈ digs n a := by simpa [rds] using hd
    obtain ⟨i, _, rfl⟩ := List.mem_map.mp this
    exact dig_lt n a i
  have hrl : rds.length = ndig n a := by simp [rds, digs]
  let R : Nat → List (Str × D) := fun i => [("r", .int ((dpAt n b rds i).2 : Int)), ("q_digits", .raw (.ref ql)), ("a_digits", digD n a), ("n", .int (n : Int)), ("a", .int (a : Int)), ("b", .int (b : Int))]
  let W : Nat → List (Addr × List D) := fun i => [(ql, natD (dpAt n b rds i).1)]
  refine wpAny_execs_cons (s_for0 (ds := natD rds) R W S₅ (It.cast (It.reversed B1 hA I1.rv (Ev.name rfl) (by simp [digs]; omega)) (by simp [natD, rds])) (lk_one rfl (lk_one rfl (lk_one rfl (lk_one rfl (lk_one rfl (lk_one rfl lk_nil)))))) rfl (fun i => rfl) (fun i d MU s₀ md s₆ E v ed hM S₆ rv => ?_) fun s₆ S₆ => ?_)
  · have ed' : ∃ dg, rds[i]? = some dg ∧ d = .int (dg : Int) := by
      simp only [natD, List.getElem?_map] at ed
      cases q : rds[i]? with
      | none => rw [q] at ed; cases ed
      | some dg => rw [q] at ed; cases ed; exact ⟨dg, rfl, rfl⟩
    obtain ⟨dg, edg, rfl⟩ := ed'
    have hdg := hrd dg (List.mem_of_getElem? edg)
    have hr := dp_lt (n := n) hb0 rds i
    have hil : i < rds.length := (List.getElem?_eq_some_iff.mp edg).1
    have hnum := dp_dig hr hdg
    have hbits : bitL ((dpAt n b rds i).2 * 2 ^ n + dg) ≤ 2 * n := bitL_le (by
      rw [show 2 * n = n + n by omega, Nat.pow_add]
      exact Nat.lt_of_lt_of_le hnum (Nat.mul_le_mul_right _ (Nat.le_of_lt hbn)))
    have hrb : bitL (dpAt n b rds i).2 ≤ n := bitL_le (Nat.lt_trans hr hbn)
    refine S₆.assign (.inl ⟨rfl, rfl⟩) rv fun s₇ S₇ => ?_
    show wpAny _ _ (execs (_ :: _) _) _ _ _
    refine wpAny_execs_cons (s_pair (d := .int ((((dpAt n b rds i).2 * 2 ^ n + dg) / b : Nat) : Int)) (d' := .int ((((dpAt n b rds i).2 * 2 ^ n + dg) % b : Nat) : Int)) S₇ hA (Ev.call (ds := [.int (((dpAt n b rds i).2 * 2 ^ n + dg : Nat) : Int), .int (b : Int), .int (n : Int)]) B1 I1.g1 (CW.fn I1.d1.fn) (.cons (Ev.cast (Ev.add (Ev.shl (Ev.name (d := .int ((dpAt n b rds i).2 : Int)) rfl) (Ev.name (d := .int (n : Int)) rfl) (Int.natCast_nonneg _) ?_) (Ev.name rfl)) ?_) rfl (.cons (Ev.name rfl) rfl (.cons (Ev.name rfl) rfl .nil))) fun vs s E ru F => ?_) (.inl ⟨rfl, rfl⟩) (.inl ⟨rfl, rfl⟩) fun s₈ S₈ => ?_)
    · rw [intBits_nat]; omega
    · rw [Int.toNat_natCast]; congr 1
    · exact div_ok B1 I1 hb0 (Nat.lt_of_lt_of_le hbn (Nat.pow_le_pow_right (by decide) (by omega))) (by omega) hA (by omega) F.g F.low ru
    · show wpAny _ _ (execs (_ :: _) _) _ _ _
      refine wpAny_execs_cons (s_append (ω₁ := []) S₈ (Ev.name rfl) (Ev.name rfl) (sz (by have := dp_len (n := n) (b := b) rds i; simp [natD]; omega)) fun s₉ S₉ => ?_)
      refine wpAny_execs_nil ⟨rfl, ?_⟩
      have q := S₉.weak (ρ' := [("r", .int ((((dpAt n b rds i).2 * 2 ^ n + dg) % b : Nat) : Int)), ("q_digits", .raw (.ref ql)), ("a_digits", digD n a), ("n", .int (n : Int)), ("a", .int (a : Int)), ("b", .int (b : Int))]) (lk_one rfl (lk_one rfl (lk_one rfl (lk_one rfl (lk_one rfl (lk_one rfl lk_nil))))))
      show St B₁ s₀ md _ MU [("r", .int ((dpAt n b rds (i + 1)).2 : Int)), ("q_digits", .raw (.ref ql)), ("a_digits", digD n a), ("n", .int (n : Int)), ("a", .int (a : Int)), ("b", .int (b : Int))] [(ql, natD (dpAt n b rds (i + 1)).1)] s₉
      rw [dpAt_succ edg]
      unfold dpStep natD
      dsimp only
      rw [List.map_append]
      exact q
  · rw [natD_len] at S₆
    show wpAny _ _ (execs (_ :: _) _) _ _ _
    refine wpAny_execs_cons (s_reverse (ω₁ := []) S₆ (Ev.name rfl) (sz (by have := dp_len (n := n) (b := b) rds rds.length; simp [natD]; omega)) fun s₇ S₇ => ?_)
    have S₈ := S₇.freeze (x := "q_digits") hq rfl
    have hdp := dp_div (n := n) (b := b) hb0 n0 a
    show wpAny _ _ (execs (_ :: _) _) _ _ _
    refine wpAny_execs_cons (s_assignT (d := .int ((a / b : Nat) : Int)) (ds := [.lst (natD (dpAt n b rds rds.length).1.reverse), .int (n : Int)]) B1 I1 S₈ (fun b hm => hb1' b hm) I1.g3 I1.d3.fn (.cons (Ev.cast (Ev.name rfl) (by unfold natD; rw [List.map_reverse])) rfl (.cons (Ev.name rfl) rfl .nil)) (.inl ⟨rfl, rfl⟩) (fun vs s' E ru g' low' => ?_) fun B₂ s₉ k2 B2 I2 hb2 S₉ => ?_)
    · have := d2iT (w := w) (A := A') (E := E) B1 N I1 (ds := (dpAt n b rds rds.length).1.reverse) (n := n) (by omega) (fun d hd => dp_small hb0 hrd rds.length d (by simpa using hd)) (by have := dp_len (n := n) (b := b) rds rds.length; rw [List.length_reverse]; omega) hA (by omega) g' low' hb1' ru
      rw [hdp.1] at this
      exact this
    · show wpAny _ _ (execs (_ :: _) _) _ _ _
      refine wpAny_execs_cons (s_return S₉ (Ev.tuple (.cons (Ev.name (d := .int ((a / b : Nat) : Int)) rfl) rfl (.cons (Ev.cast (d' := .int ((a % b : Nat) : Int)) (Ev.name rfl) (by rw [hdp.2])) rfl .nil)) (sz (by simp))) fun v s₁₀ rv S₁₀ => ?_)
      exact S₁₀.doneT I2 hb2 (by simp) rv
end
end Mine
end
end
section
set_option Elab.async false
noncomputable section
open PySem PySem.W PySem.Calls PyProof.Rows
set_option maxRecDepth 100000
set_option linter.unusedVariables false
set_option maxHeartbeats 1000000
set_option exponentiation.threshold 10
namespace Mine
theorem idm_nat (a b : Nat) : ((a : Int).fdiv (b : Int)) = ((a / b : Nat) : Int) ∧ ((a : Int).fmod (b : Int)) = ((a % b : Nat) : Int) := by
  rw [Int.fdiv_eq_ediv_of_nonneg _ (Int.natCast_nonneg _), Int.fmod_eq_emod_of_nonneg _ (Int.natCast_nonneg _), ← Int.natCast_ediv, ← Int.natCast_emod]
  exact ⟨rfl, rfl⟩
theorem idm_inv {a : Int} {b : Nat} (hb : 0 < b) : Builtin.bitNot ((Builtin.bitNot a).fdiv b) = a.fdiv b ∧ (b : Int) + Builtin.bitNot ((Builtin.bitNot a).fmod b) = a.fmod b := by
  unfold Builtin.bitNot
  rw [Int.fdiv_eq_ediv_of_nonneg _ (Int.natCast_nonneg _), Int.fmod_eq_emod_of_nonneg _ (Int.natCast_nonneg _), Int.fdiv_eq_ediv_of_nonneg _ (Int.natCast_nonneg _), Int.fmod_eq_emod_of_nonneg _ (Int.natCast_nonneg _)]
  have hb' : (0 : Int) < b := by omega
  have h1 := Int.emod_add_mul_ediv (-a - 1) b
  have h2 := Int.emod_nonneg (-a - 1) (Int.ne_of_gt hb')
  have h3 := Int.emod_lt_of_pos (-a - 1) hb'
  have u := (Int.ediv_emod_unique (a := a) (b := b) (r := b - 1 - (-a - 1) % b) (q := -((-a - 1) / b) - 1) hb').mpr ⟨by
    rw [Int.mul_sub, Int.mul_neg, Int.mul_one]; omega, by omega, by omega⟩
  rw [u.1, u.2]
  omega
theorem idm_neg (a b : Int) : (-a).fdiv (-b) = a.fdiv b ∧ -((-a).fmod (-b)) = a.fmod b := by
  refine ⟨Int.neg_fdiv_neg a b, ?_⟩
  rw [Int.neg_fmod_neg, Int.neg_neg]
noncomputable def dmD (a b : Int) : D := .tup [.int (a.fdiv b), .int (a.fmod b)]
section
variable {w : World} {B₀ : Heap} {mg mb : Str → Option Value}
theorem idm_nn (B : Base B₀ mg mb) (N : Nms mg mb) (I : IntF B₀ mg mb) {A : Around} {mu : List Addr} {a b : Nat} (hb0 : 0 < b) (hb1 : b < 2 ^ 500) (ha : a < 2 ^ 500) (hh : A.handled = none) (hd : A.depth + 620 < recursionLimit) {s : Shared} {E : Value → Shared → Prop} {us : List Value}
    (g : Sub B₀ s.heap) (low : Low mu s.heap) (hmu : ∀ b ∈ mu, B₀.get? b = none) (r : Rps (Hid mu s.heap) us [.int (a : Int), .int (b : Int)]) :
    wpAny (model theProg w) A (call (.ref 80) us) (PostT mu (dmD a b) s) E s := by
  refine call_st B I.d5 (by omega) g low r (by rw [r.length]; rfl) ?_ fun s₁ S E => ?_
  · replace r := rps_cons r; obtain ⟨_, _, rfl, r1, r2⟩ := r
    replace r2 := rps_cons r2; obtain ⟨_, _, rfl, r2, r3⟩ := r2
    (first | obtain ⟨_, rfl⟩ := rp_int r3 | obtain ⟨_, rfl⟩ := rp_str r3 | obtain rfl := rp_raw r3 | obtain rfl := rps_nil r3 | cases r3); rfl
  have hA : (A.deeper (callEnvC fdIdm s.heap.objs.size 80)).handled = none := hh
  have hdep : (A.deeper (callEnvC fdIdm s.heap.objs.size 80)).depth + 605 < recursionLimit := by show A.depth + 1 + 605 < _; omega
  have hbM := frame_out (fd := fdIdm) g hmu
  generalize hL : s.heap.objs.size = L at *
  generalize hA' : A.deeper (callEnvC fdIdm L 80) = A' at *
  show wpAny _ _ (execs (_ :: _) _) _ _ _
  refine wpAny_execs_cons (s_if S (Ts.eq (Ev.name rfl) Ev.cInt) fun s₂ S₂ => ?_)
  have e1 : ((b : Int) == 0) = false := by simp; omega
  rw [e1]
  show wpAny _ _ (execs (_ :: _) _) _ _ _
  refine wpAny_execs_cons (s_if S₂ (Ts.lt (Ev.name rfl) Ev.cInt) fun s₃ S₃ => ?_)
  have e2 : decide ((b : Int) < 0) = false := decide_eq_false (by omega)
  rw [e2]
  show wpAny _ _ (execs (_ :: _) _) _ _ _
  refine wpAny_execs_cons (s_if S₃ (Ts.lt (Ev.name rfl) Ev.cInt) fun s₄ S₄ => ?_)
  have e3 : decide ((a : Int) < 0) = false := decide_eq_false (by omega)
  rw [e3]
  show wpAny _ _ (execs (_ :: _) _) _ _ _
  refine wpAny_execs_cons (s_returnT (d := dmD a b) (ds := [.int (a : Int), .int (b : Int)]) B I S₄ hbM I.g4 I.d4.fn (.cons (Ev.name rfl) rfl (.cons (Ev.name rfl) rfl .nil)) (fun vs s' E ru g' low' => ?_) fun B₁ v s₅ I1 hb2 rv S₅ => S₅.doneT I1 hb2 (by simp) rv)
  have := dmp_ok (w := w) (A := A') (E := E) B N I hb0 hb1 ha hA (by omega) g' low' hbM ru
  unfold dmD
  rw [(idm_nat a b).1, (idm_nat a b).2]
  exact this
theorem idm_pos (B : Base B₀ mg mb) (N : Nms mg mb) (I : IntF B₀ mg mb) {A : Around} {mu : List Addr} {a : Int} {b : Nat} (hb0 : 0 < b) (hb1 : b < 2 ^ 500) (ha : a.natAbs < 2 ^ 500) (hh : A.handled = none) (hd : A.depth + 640 < recursionLimit) {s : Shared} {E : Value → Shared → Prop} {us : List Value}
    (g : Sub B₀ s.heap) (low : Low mu s.heap) (hmu : ∀ b ∈ mu, B₀.get? b = none) (r : Rps (Hid mu s.heap) us [.int a, .int (b : Int)]) :
    wpAny (model theProg w) A (call (.ref 80) us) (PostT mu (dmD a b) s) E s := by
  by_cases hn : 0 ≤ a
  · obtain ⟨m, rfl⟩ := Int.eq_ofNat_of_zero_le hn
    exact idm_nn B N I hb0 hb1 (by simpa using ha) hh (by omega) g low hmu r
  refine call_st B I.d5 (by omega) g low r (by rw [r.length]; rfl) ?_ fun s₁ S E => ?_
  · replace r := rps_cons r; obtain ⟨_, _, rfl, r1, r2⟩ := r
    replace r2 := rps_cons r2; obtain ⟨_, _, rfl, r2, r3⟩ := r2
    (first | obtain ⟨_, rfl⟩ := rp_int r3 | obtain ⟨_, rfl⟩ := rp_str r3 | obtain rfl := rp_raw r3 | obtain rfl := rps_nil r3 | cases r3); rfl
  have hA : (A.deeper (callEnvC fdIdm s.heap.objs.size 80)).handled = none := hh
  have hdep : (A.deeper (callEnvC fdIdm s.heap.objs.size 80)).depth + 625 < recursionLimit := by show A.depth + 1 + 625 < _; omega
  have hbM := frame_out (fd := fdIdm) g hmu
  generalize hL : s.heap.objs.size = L at *
  generalize hA' : A.deeper (callEnvC fdIdm L 80) = A' at *
  show wpAny _ _ (execs (_ :: _) _) _ _ _
  refine wpAny_execs_cons (s_if S (Ts.eq (Ev.name rfl) Ev.cInt) fun s₂ S₂ => ?_)
  have e1 : ((b : Int) == 0) = false := by simp; omega
  rw [e1]
  show wpAny _ _ (execs (_ :: _) _) _ _ _
  refine wpAny_execs_cons (s_if S₂ (Ts.lt (Ev.name rfl) Ev.cInt) fun s₃ S₃ => ?_)
  have e2 : decide ((b : Int) < 0) = false := decide_eq_false (by omega)
  rw [e2]
  show wpAny _ _ (execs (_ :: _) _) _ _ _
  refine wpAny_execs_cons (s_if S₃ (Ts.lt (Ev.name rfl) Ev.cInt) fun s₄ S₄ => ?_)
  have e3 : decide (a < 0) = true := decide_eq_true (by omega)
  rw [e3]
  show wpAny _ _ (execs (_ :: _) _) _ _ _
  obtain ⟨m, hm⟩ : ∃ m : Nat, Builtin.bitNot a = (m : Int) := Int.eq_ofNat_of_zero_le (by unfold Builtin.bitNot; omega)
  have hml : m < 2 ^ 500 := by
    have : (m : Int) = -a - 1 := by rw [← hm]; rfl
    omega
  have hi := idm_inv (a := a) hb0
  rw [hm] at hi
  refine wpAny_execs_cons (s_pairT (ds := [.int (m : Int), .int (b : Int)]) B I S₄ hbM hA I.g5 I.d5.fn (.cons (Ev.cast (Ev.inv (Ev.name rfl)) (by rw [hm])) rfl (.cons (Ev.name rfl) rfl .nil)) (.inl ⟨rfl, rfl⟩) (.inl ⟨rfl, rfl⟩) (fun vs s' E ru g' low' => idm_nn B N I hb0 hb1 hml hA (by omega) g' low' hbM ru) fun B₁ s₅ k1 B1 I1 hb2 S₅ => ?_)
  show wpAny _ _ (execs (_ :: _) _) _ _ _
  refine wpAny_execs_cons (s_return (d := dmD a b) S₅ (Ev.cast (Ev.tuple (.cons (Ev.inv (Ev.name rfl)) rfl (.cons (Ev.add (Ev.name rfl) (Ev.inv (Ev.name rfl))) rfl .nil)) (sz (by simp))) ?_) fun v s₆ rv S₆ => S₆.doneT I1 hb2 (by simp) rv)
  unfold dmD
  rw [hi.1, hi.2]
theorem idm_ok (B : Base B₀ mg mb) (N : Nms mg mb) (I : IntF B₀ mg mb) {A : Around} {mu : List Addr} {a b : Int} (hb0 : b ≠ 0) (hb1 : b.natAbs < 2 ^ 500) (ha : a.natAbs < 2 ^ 500) (hh : A.handled = none) (hd : A.depth + 660 < recursionLimit) {s : Shared} {E : Value → Shared → Prop} {us : List Value}
    (g : Sub B₀ s.heap) (low : Low mu s.heap) (hmu : ∀ b ∈ mu, B₀.get? b = none) (r : Rps (Hid mu s.heap) us [.int a, .int b]) :
    wpAny (model theProg w) A (call (.ref 80) us) (PostT mu (dmD a b) s) E s := by
  by_cases hn : 0 ≤ b
  · obtain ⟨m, rfl⟩ := Int.eq_ofNat_of_zero_le hn
    exact idm_pos B N I (by omega) (by simpa using hb1) ha hh (by omega) g low hmu r
  refine call_st B I.d5 (by omega) g low r (by rw [r.length]; rfl) ?_ fun s₁ S E => ?_
  · replace r := rps_cons r; obtain ⟨_, _, rfl, r1, r2⟩ := r
    replace r2 := rps_cons r2; obtain ⟨_, _, rfl, r2, r3⟩ := r2
    (first | obtain ⟨_, rfl⟩ := rp_int r3 | obtain ⟨_, rfl⟩ := rp_str r3 | obtain rfl := rp_raw r3 | obtain rfl := rps_nil r3 | cases r3); rfl
  have hA : (A.deeper (callEnvC fdIdm s.heap.objs.size 80)).handled = none := hh
  have hdep : (A.deeper (callEnvC fdIdm s.heap.objs.size 80)).depth + 645 < recursionLimit := by show A.depth + 1 + 645 < _; omega
  have hbM := frame_out (fd := fdIdm) g hmu
  generalize hL : s.heap.objs.size = L at *
  generalize hA' : A.deeper (callEnvC fdIdm L 80) = A' at *
  show wpAny _ _ (execs (_ :: _) _) _ _ _
  refine wpAny_execs_cons (s_if S (Ts.eq (Ev.name rfl) Ev.cInt) fun s₂ S₂ => ?_)
  have e1 : (b == 0) = false := by simpa using hb0
  rw [e1]
  show wpAny _ _ (execs (_ :: _) _) _ _ _
  refine wpAny_execs_cons (s_if S₂ (Ts.lt (Ev.name rfl) Ev.cInt) fun s₃ S₃ => ?_)
  have e2 : decide (b < 0) = true := decide_eq_true (by omega)
  rw [e2]
  show wpAny _ _ (execs (_ :: _) _) _ _ _
  obtain ⟨m, hm⟩ : ∃ m : Nat, -b = (m : Int) := Int.eq_ofNat_of_zero_le (by omega)
  have hi := idm_neg a b
  rw [hm] at hi
  refine wpAny_execs_cons (s_pairT (ds := [.int (-a), .int (m : Int)]) B I S₃ hbM hA I.g5 I.d5.fn (.cons (Ev.neg (Ev.name rfl)) rfl (.cons (Ev.cast (Ev.neg (Ev.name rfl)) (by rw [hm])) rfl .nil)) (.inl ⟨rfl, rfl⟩) (.inl ⟨rfl, rfl⟩) (fun vs s' E ru g' low' => idm_pos B N I (by omega) (by omega) (by simpa using ha) hA (by omega) g' low' hbM ru) fun B₁ s₅ k1 B1 I1 hb2 S₅ => ?_)
  show wpAny _ _ (execs (_ :: _) _) _ _ _
  refine wpAny_execs_cons (s_return (d := dmD a b) S₅ (Ev.cast (Ev.tuple (.cons (Ev.name rfl) rfl (.cons (Ev.neg (Ev.name rfl)) rfl .nil)) (sz (by simp))) ?_) fun v s₆ rv S₆ => S₆.doneT I1 hb2 (by simp) rv)
  unfold dmD
  rw [hi.1, hi.2]
end
end Mine
end
end
section
set_option Elab.async false
noncomputable section
open PySem PySem.W PySem.Calls PyProof.Rows
set_option maxRecDepth 100000
set_option linter.unusedVariables false
set_option maxHeartbeats 1000000
namespace Mine
theorem ints_items {h : Heap} : ∀ {vs : List Value} {ns : List Int}, Rps h vs (ns.map .int) → ∃ xs : List (Int × Tok), vs = xs.map (fun p => Value.int p.1 p.2) ∧ xs.map (·.1) = ns
  | [], [], _ => ⟨[], rfl, rfl⟩
  | _ :: _, [], r => by (first | obtain ⟨_, rfl⟩ := rp_int r | obtain ⟨_, rfl⟩ := rp_str r | obtain rfl := rp_raw r | obtain rfl := rps_nil r | cases r)
  | [], _ :: _, r => by (first | obtain ⟨_, rfl⟩ := rp_int r | obtain ⟨_, rfl⟩ := rp_str r | obtain rfl := rp_raw r | obtain rfl := rps_nil r | cases r)
  | _ :: _, n :: ns, r => by
    cases r with
    | cons a b =>
      obtain ⟨xs, e1, e2⟩ := ints_items b
      cases a with
      | int _ t => exact ⟨(n, t) :: xs, by rw [e1]; rfl, by rw [List.map_cons, e2]⟩
theorem numAt_ints {xs : List (Int × Tok)} {ns : List Int} (e : xs.map (·.1) = ns) (i : Nat) : numAt xs.toArray i = ns.getD i 0 := by
  subst e
  simp [numAt, List.getD]
theorem preSum_ints {xs : List (Int × Tok)} {ns : List Int} (e : xs.map (·.1) = ns) : ∀ j, preSum (numAt xs.toArray) j = (ns.take j).sum
  | 0 => by simp [preSum]
  | j + 1 => by
    show preSum _ j + numAt _ j = _
    rw [preSum_ints e j, numAt_ints e, List.take_add_one, List.sum_append]
    congr 1
    cases q : ns[j]? with
    | none => simp [List.getD, q]
    | some x => simp [List.getD, q]
theorem sum_bound {M : Int} : ∀ {ns : List Int}, (∀ x ∈ ns, 0 ≤ x ∧ x ≤ M) → 0 ≤ ns.sum ∧ ns.sum ≤ M * ns.length
  | [], _ => by simp
  | x :: ns, h => by
    have ih := sum_bound fun y hy => h y (.tail _ hy)
    have hx := h x (.head _)
    rw [List.sum_cons, List.length_cons, Int.natCast_add, Int.mul_add]
    simp only [Int.natCast_one, Int.mul_one]
    omega
section
variable {prog : Program} {w : World} {B₀ : Heap} {A : Around} {env : Env} {MU mu md : List Addr} {ρ : List (Str × D)} {ω : List (Addr × List D)} {s₀ s s' : Shared} {E : Value → Shared → Prop} {mg mb : Str → Option Value} {pos : Pos}
theorem toItems (xs : List (Int × Tok)) : (xs.map fun p => Value.int p.1 p.2).toArray = intItems xs.toArray := by simp [intItems]
theorem Ev.sumL (B : Base B₀ mg mb) {e : Expr} {ns : List Int} {np : Pos} (hh : A.handled = none) (hg : Glb mg mb "sum" (.builtin "sum")) (he : Ev prog w B₀ A env MU ρ e (.lst (ns.map .int))) (hb : ∀ x ∈ ns, 0 ≤ x ∧ x ≤ 1000000) (hl : ns.length ≤ 100)
    (hs : starEach [e] env = [(false, eval e env)] := by rfl) (hk : env.kindOf "sum" = some .globalImplicit := by rfl) : Ev prog w B₀ A env MU ρ (.Call (.Name "sum" np) [e] [] pos) (.int ns.sum) :=
  Ev.call B hg (CW.builtin _) (.cons he hs .nil) (fun vs s E r F => by
    replace r := rps_cons r; obtain ⟨_, _, rfl, r1, r2⟩ := r
    (first | obtain ⟨_, rfl⟩ := rp_int r2 | obtain ⟨_, rfl⟩ := rp_str r2 | obtain rfl := rp_raw r2 | obtain rfl := rps_nil r2 | cases r2)
    replace r1 := rp_lst r1; obtain ⟨a, us, rfl, p, q⟩ := r1
    obtain ⟨xs, rfl, ex⟩ := ints_items q
    have hL := (plist p).isList
    rw [toItems] at hL
    have hlen : xs.length = ns.length := by rw [← ex, List.length_map]
    refine sum_intList hh hL (fun j hj => ?_) fun h' tk t' k => ?_
    · have hj' : j < ns.length := by rw [← hlen]; simpa using hj
      rw [numAt_ints ex, preSum_ints ex]
      have h1 := hb (ns.getD j 0) (by simp [List.getD, hj'])
      have h2 := sum_bound (M := 1000000) (ns := ns.take (j + 1)) fun x hx => hb x (List.mem_of_mem_take hx)
      rw [List.length_take] at h2
      have h3 : ((min (j + 1) ns.length : Nat) : Int) ≤ 100 := by omega
      unfold InLong
      omega
    · rw [preSum_ints ex]
      have : (List.take xs.toArray.size ns) = ns := by simp [hlen]
      rw [this]
      exact ⟨.int _ _, Kp.mk k⟩) hk
theorem Ev.min2 (B : Base B₀ mg mb) {e e' : Expr} {a b : Int} {np : Pos} (hh : A.handled = none) (hg : Glb mg mb "min" (.builtin "min")) (he : Ev prog w B₀ A env MU ρ e (.int a)) (he' : Ev prog w B₀ A env MU ρ e' (.int b))
    (hs : starEach [e, e'] env = (false, eval e env) :: starEach [e'] env := by rfl) (hs' : starEach [e'] env = [(false, eval e' env)] := by rfl) (hk : env.kindOf "min" = some .globalImplicit := by rfl) :
    Ev prog w B₀ A env MU ρ (.Call (.Name "min" np) [e, e'] [] pos) (.int (if b < a then b else a)) :=
  Ev.call B hg (CW.builtin _) (.cons he hs (.cons he' hs' .nil)) (fun vs s E r F => by
    replace r := rps_cons r; obtain ⟨_, _, rfl, r1, r2⟩ := r
    replace r2 := rps_cons r2; obtain ⟨_, _, rfl, r2, r3⟩ := r2
    (first | obtain ⟨_, rfl⟩ := rp_int r3 | obtain ⟨_, rfl⟩ := rp_str r3 | obtain rfl := rp_raw r3 | obtain rfl := rps_nil r3 | cases r3); (first | obtain ⟨_, rfl⟩ := rp_int r1 | obtain ⟨_, rfl⟩ := rp_str r1 | obtain rfl := rp_raw r1 | obtain rfl := rps_nil r1 | cases r1); (first | obtain ⟨_, rfl⟩ := rp_int r2 | obtain ⟨_, rfl⟩ := rp_str r2 | obtain rfl := rp_raw r2 | obtain rfl := rps_nil r2 | cases r2)
    refine min_two_ints hh fun h' tk k => ?_
    split
    · exact ⟨.int _ _, Kp.mk k⟩
    · exact ⟨.int _ _, Kp.mk k⟩) hk
theorem Ev.minL (B : Base B₀ mg mb) {e : Expr} {ns : List Int} {m : Int} {np : Pos} (hh : A.handled = none) (hg : Glb mg mb "min" (.builtin "min")) (he : Ev prog w B₀ A env MU ρ e (.lst (ns.map .int))) (hm : m ∈ ns) (hle : ∀ x ∈ ns, m ≤ x)
    (hs : starEach [e] env = [(false, eval e env)] := by rfl) (hk : env.kindOf "min" = some .globalImplicit := by rfl) : Ev prog w B₀ A env MU ρ (.Call (.Name "min" np) [e] [] pos) (.int m) :=
  Ev.call B hg (CW.builtin _) (.cons he hs .nil) (fun vs s E r F => by
    replace r := rps_cons r; obtain ⟨_, _, rfl, r1, r2⟩ := r
    (first | obtain ⟨_, rfl⟩ := rp_int r2 | obtain ⟨_, rfl⟩ := rp_str r2 | obtain rfl := rp_raw r2 | obtain rfl := rps_nil r2 | cases r2)
    replace r1 := rp_lst r1; obtain ⟨a, us, rfl, p, q⟩ := r1
    obtain ⟨xs, rfl, ex⟩ := ints_items q
    have hL := (plist p).isList
    rw [toItems] at hL
    have hlen : xs.length = ns.length := by rw [← ex, List.length_map]
    have hpos : 0 < ns.length := List.length_pos_of_mem hm
    refine min_intList hh hL (by simp; omega) fun v h' tk ev k => ?_
    obtain ⟨t, rfl⟩ := intItems_at ev
    have hb := argBest_lt (numAt xs.toArray) (xs.toArray.size - 1)
    generalize argBest (fun i j => decide (numAt xs.toArray i < numAt xs.toArray j)) (xs.toArray.size - 1) = i at *
    have hi : i < ns.length := by have := hb.1; simp at this; omega
    have e1 : numAt xs.toArray i = ns[i] := by rw [numAt_ints ex]; simp [List.getD, hi]
    have e2 : m ≤ ns[i] := hle _ (List.getElem_mem hi)
    obtain ⟨j, hj, ej⟩ := List.getElem_of_mem hm
    have e3 := hb.2 j (by simp; omega)
    rw [numAt_ints ex j] at e3
    have e4 : ns.getD j 0 = m := by simp [List.getD, hj, ej]
    have : numAt xs.toArray i = m := by omega
    rw [this]
    exact ⟨.int _ _, Kp.mk k⟩) hk
-- equal data
open PySem.SeqAt in
theorem eqAt_int {A : Around} {h : Heap} {v u : Value} {i : Int} (a : Rp h v (.int i)) (b : Rp h u (.int i)) : EqAt A s v u true := by
  obtain ⟨t, rfl⟩ := rp_int a
  obtain ⟨u, rfl⟩ := rp_int b
  have := (MeetsSeq.EqGives.int i i t u).at A s
  simpa using this
open PySem.SeqAt in
theorem eqAt_str {A : Around} {h : Heap} {v u : Value} {x : Str} (a : Rp h v (.str x)) (b : Rp h u (.str x)) : EqAt A s v u true := by
  obtain ⟨t, rfl⟩ := rp_str a
  obtain ⟨u, rfl⟩ := rp_str b
  have := (EqGives_str x x t u).at A s
  simpa using this
theorem isTup {h : Heap} {a : Addr} {vs : List Value} (e : ∃ n, h.get? a = some { cls := .type "tuple", data := .seq vs.toArray n }) : h.IsTuple a vs.toArray := let ⟨n, e⟩ := e; ⟨_, e, rfl, n, rfl⟩
open PySem.SeqAt in
theorem eqAt_pair {A : Around} {v u : Value} {x y : Str} (hu : A.units < cLine) (a : Rp s.heap v (.tup [.str x, .str y])) (b : Rp s.heap u (.tup [.str x, .str y])) : EqAt A s v u true := by
  replace a := rp_tup a; obtain ⟨a1, vs, rfl, e1, r1⟩ := a
  replace b := rp_tup b; obtain ⟨a2, us, rfl, e2, r2⟩ := b
  by_cases q : a1 = a2
  · subst q; exact EqAt.same _
  · have h1 := isTup e1
    have h2 := isTup e2
    have l1 := r1.length
    have l2 := r2.length
    have := RcAt.tuples (e := fun _ => true) h1 h2 hu fun j h1 h2 => by
      have g1 : vs[j]? = some (vs.toArray[j]) := by simp at h1; simp [h1]
      have g2 : us[j]? = some (us.toArray[j]) := by simp at h2; simp [h2]
      obtain ⟨d1, ed1, rd1⟩ := r1.get g1
      obtain ⟨d2, ed2, rd2⟩ := r2.get g2
      rw [ed1] at ed2; cases ed2
      match j, ed1 with
      | 0, ed1 => cases ed1; exact eqAt_str rd1 rd2
      | 1, ed1 => cases ed1; exact eqAt_str rd1 rd2
    refine EqAt.of_refs q ?_
    have e : ((List.range (min vs.toArray.size us.toArray.size)).all (fun _ => true) && vs.toArray.size == us.toArray.size) = true := by
      simp [l1, l2]
    rw [e] at this
    exact this
open PySem.SeqAt in
theorem Ts.neL {l r : Expr} {ds : List D} (hl : Ev prog w B₀ A env MU ρ l (.lst ds)) (hr : Ev prog w B₀ A env MU ρ r (.lst ds)) (hu : A.units < cLine) (he : ∀ s d v u, d ∈ ds → Rp s.heap v d → Rp s.heap u d → EqAt A.in1 s v u true)
    (hm : behindInMarks .NotEq r = false := by with_unfolding_all rfl) : Ts prog w B₀ A env MU ρ (.Compare l [.NotEq] [r] pos) false :=
  Ts.cmp hl hr (fun va vb s E ra rb => by
    replace ra := rp_lst ra; obtain ⟨a1, vs, rfl, p1, q1⟩ := ra
    replace rb := rp_lst rb; obtain ⟨a2, us, rfl, p2, q2⟩ := rb
    have l1 := q1.length
    have l2 := q2.length
    have := RcNeAt.lists (A := A) (s := s) (e := fun _ => true) (plist p1).isList (plist p2).isList (by simp [l1, l2]) hu fun j h1 h2 => by
      have g1 : vs[j]? = some (vs.toArray[j]) := by simp at h1; simp [h1]
      have g2 : us[j]? = some (us.toArray[j]) := by simp at h2; simp [h2]
      obtain ⟨d1, ed1, rd1⟩ := q1.get g1
      obtain ⟨d2, ed2, rd2⟩ := q2.get g2
      rw [ed1] at ed2; cases ed2
      exact he s d1 _ _ (List.mem_of_getElem? ed1) (rd1.mono hid_sub) (rd2.mono hid_sub)
    have e : (!(List.range vs.toArray.size).all fun _ => true) = false := by simp
    rw [e] at this
    exact this prog w E _ ⟨rfl, Kp.refl s⟩) hm
open PySem.SeqAt in
theorem Ev.eqL {l r : Expr} {ds : List D} (hl : Ev prog w B₀ A env MU ρ l (.lst ds)) (hr : Ev prog w B₀ A env MU ρ r (.lst ds)) (hu : A.units < cLine) (he : ∀ s d v u, d ∈ ds → Rp s.heap v d → Rp s.heap u d → EqAt A.in1 s v u true)
    (hm : behindInMarks .Eq r = false := by with_unfolding_all rfl) : Ev prog w B₀ A env MU ρ (.Compare l [.Eq] [r] pos) (.bool true) :=
  Ev.cmp hl hr (fun va vb s E ra rb => by
    replace ra := rp_lst ra; obtain ⟨a1, vs, rfl, p1, q1⟩ := ra
    replace rb := rp_lst rb; obtain ⟨a2, us, rfl, p2, q2⟩ := rb
    have l1 := q1.length
    have l2 := q2.length
    refine eq_listAt (e := fun _ => true) (plist p1).isList (plist p2).isList (by simp [l1, l2]) hu (fun j h1 h2 => ?_) ?_
    · have g1 : vs[j]? = some (vs.toArray[j]) := by simp at h1; simp [h1]
      have g2 : us[j]? = some (us.toArray[j]) := by simp at h2; simp [h2]
      obtain ⟨d1, ed1, rd1⟩ := q1.get g1
      obtain ⟨d2, ed2, rd2⟩ := q2.get g2
      rw [ed1] at ed2; cases ed2
      exact he s d1 _ _ (List.mem_of_getElem? ed1) (rd1.mono hid_sub) (rd2.mono hid_sub)
    · have e : ((List.range vs.toArray.size).all fun _ => true) = true := by simp
      rw [e]
      exact ⟨.bool _, Kp.refl s⟩) hm
theorem Ev.and2 {e₁ e₂ : Expr} {d : D} (h₁ : Ev prog w B₀ A env MU ρ e₁ (.bool true)) (h₂ : Ev prog w B₀ A env MU ρ e₂ d) : Ev prog w B₀ A env MU ρ (.BoolOp .And [e₁, e₂] pos) d := fun s E F =>
  BoolOp_and (wpAny_mono (h₁ s E F) (fun v s₁ ⟨r, K⟩ => by
    (first | obtain ⟨_, rfl⟩ := rp_int r | obtain ⟨_, rfl⟩ := rp_str r | obtain rfl := rp_raw r | obtain rfl := rps_nil r | cases r)
    refine wpAny_truthy_bool ?_
    rw [if_pos rfl]
    exact BoolOp_one (wpAny_mono (h₂ s₁ E (F.keeps K)) (fun _ _ ⟨x, y⟩ => ⟨x, K.trans y⟩) fun _ _ x => x)) fun _ _ x => x)
theorem cut_to (n : Nat) {ds : List D} : ∀ (h : Heap) (vs : List Value), Rps h vs ds → ∃ us, slicePick vs.toArray none (some (n : Int)) none = List.toArray us ∧ Rps h us (ds.take n) := fun h vs r =>
  ⟨_, slicePick_upto' _ _, by simpa using r.take n⟩
end
end Mine
end
end
section
set_option Elab.async false
noncomputable section
open PySem PySem.W PySem.Calls PyProof.Rows
set_option maxRecDepth 100000
set_option linter.unusedVariables false
set_option maxHeartbeats 1000000
namespace Mine
section
variable {prog : Program} {w : World} {B₀ : Heap} {A : Around} {env : Env} {MU mu md : List Addr} {ρ : List (Str × D)} {ω : List (Addr × List D)} {s₀ s s' : Shared} {E : Value → Shared → Prop} {mg mb : Str → Option Value} {scope : Scope} {cl : List (Str × Addr)}
/-- y = [elt for tgt in iter ..] in a body's state -/
theorem s_comp {tgt iter elt : Expr} {ifs : List Expr} {pos spos py : Pos} {y : Str} {ds : List D} {ρf : List (Str × D)} {p : D → Bool} {f : D → D} {bs : D → List (Str × D)} {a : Addr} {Q : Flow → Shared → Prop}
    (S : St B₀ s₀ md env MU ρ ω s) (hh : A.handled = none) (T : SlotOf env y a) (hsw : swapsWith (.ListComp elt [⟨tgt, iter, ifs, 0⟩] scope pos) (some (.Name y py)) spos.line env = pure true) (ok : CompOk env scope cl iter) (hit : It prog w B₀ A env MU ρ iter ds) (hf : FreeOk env ρ scope cl ρf)
    (hT : ∀ C d, d ∈ ds → ∃ md, AsT prog w B₀ (cenvOf scope cl env C) tgt d (bs d) md ∧ ∀ b ∈ md, b = C ∨ b ∈ (ownCells C scope).map (·.2))
    (hdis : ∀ d y e, ρf.lookup y = some e → (bs d ++ ρf).lookup y = some e)
    (hts : ∀ C MU d, d ∈ ds → Tss prog w B₀ A (cenvOf scope cl env C) MU (bs d ++ ρf) ifs (p d)) (hel : ∀ C MU d, d ∈ ds → p d = true → Ev prog w B₀ A (cenvOf scope cl env C) MU (bs d ++ ρf) elt (f d))
    (h : ∀ s', St B₀ s₀ md env MU ((y, .lst ((ds.filter p).map f)) :: ρ) ω s' → Q .next s') :
    wpAny (model prog w) A (exec (.Assign [.Name y py] (.ListComp elt [⟨tgt, iter, ifs, 0⟩] scope pos) spos) env) Q E s := by
  refine comp_store hh S.f T hsw ok hit hf hT hdis hts hel fun h' tk F' sb => h _ ?_
  have am := T.mem S.f.wf
  refine S.of (ws := [a]) (s' := { s with heap := h', toks := tk }) ⟨F', fun p hp => ?_, S.fo.d⟩ ⟨_, _, rfl, sb⟩ (fun z hz => ?_) S.fw
  · obtain ⟨c, sd⟩ := S.fo.o p hp
    have hne : p.1 ≠ a := by
      rcases T with ⟨_, e⟩ | ⟨_, e⟩
      · rw [e]; exact sd.loc
      · exact (sd.cel y a e).symm
    exact ⟨c.subB sb (by simpa using hne) fun b hb => by rw [List.mem_singleton] at hb; subst hb; exact am.1, sd⟩
  · rw [List.mem_singleton] at hz; subst hz
    rcases T with ⟨_, e⟩ | ⟨ek, e⟩
    · rw [e]; exact S.fl
    · exact S.fc y _ ek e
end
theorem ints_rps {h : Heap} : ∀ {vs : List Value} {ns : List Int}, IntsAre vs ns → Rps h vs (ns.map .int)
  | _, _, .nil => .nil
  | _, _, .cons _ _ r => .cons (.int _ _) (ints_rps r)
/-- the first ones of a list of ints of the base -/
theorem Ev.rcut {prog : Program} {w : World} {B₀ : Heap} {A : Around} {env : Env} {mu : List Addr} {ρ : List (Str × D)} {l hi : Expr} {n : Nat} {pos p : Pos} {a : Addr} {vs : List Value} {ns : List Int} (hl : Ev prog w B₀ A env mu ρ l (.raw (.ref a))) (hL : B₀.IsList a vs.toArray) (hI : IntsAre vs ns) (hu : Ev prog w B₀ A env mu ρ hi (.int (n : Int))) (hn : ns.length ≤ 1000)
    (hs : ∀ o k, subscripted (.Slice none (some hi) none pos) false (.ref o) (.ref k) = operate [.ref k, .ref o] (getItem (.ref o) (.ref k)) := by intro _ _; rfl) :
    Ev prog w B₀ A env mu ρ (.Subscript l (.Slice none (some hi) none pos) p) (.lst ((ns.take n).map .int)) :=
  Ev.cut hl .none (.some hu) fun v p q s E rv ep eq F => by
    (first | obtain ⟨_, rfl⟩ := rp_int rv | obtain ⟨_, rfl⟩ := rp_str rv | obtain rfl := rp_raw rv | obtain rfl := rps_nil rv | cases rv)
    have hp : p = none := by cases p with
      | none => rfl
      | some x => cases ep
    subst hp
    have hl : s.heap.IsList a vs.toArray := let ⟨o, e, r⟩ := hL; ⟨o, F.g _ _ e, r⟩
    have hlen := (ints_rps (h := s.heap) hI).length
    rw [List.length_map] at hlen
    refine tail_any (Heap.IsList.typeIs (s := { s with heap := s.heap.push { cls := .type "slice", data := .fields #[partValue none, partValue q, .none] } }) (hl.push _)) list_getitem_lookup
      (wpAny_getItem_list_slice (hl.push _) (Heap.IsSliceOf.new ..) (isPart_of none) (isPart_of q) .none (by simp) ?_ (sz (by rw [List.size_toArray, hlen]; omega))) (hs _ _)
    rw [eq]
    have e : slicePick vs.toArray (Option.map (·.1) (none : Option (Int × Tok))) (some (n : Int)) none = (vs.take n).toArray := by
      show slicePick vs.toArray none (some (n : Int)) none = _
      rw [slicePick_upto']
    rw [e]
    have ru : Rps (Hid mu s.heap) (vs.take n) ((ns.take n).map .int) := by rw [List.map_take]; exact (ints_rps hI).take n
    have q := newLst (mu := mu) (s := { s with heap := s.heap.push { cls := .type "slice", data := .fields #[partValue none, partValue q, .none] } }) (Low.push F.low _) (ru.mono (Kp.push s _).hid)
    exact ⟨q.1, (Kp.push s _).trans q.2⟩
noncomputable def cellsOf (s : List Int) : List Int := ((s.take 7).map fun x => x.fmod 1000000) ++ ([3, 0, 1, 0, 0, 1, 0] : List Int).drop (s.take 7).length
theorem cellsOf_len (s : List Int) : (cellsOf s).length = 7 := by
  unfold cellsOf
  simp only [List.length_append, List.length_map, List.length_drop, List.length_take, List.length_cons, List.length_nil]
  omega
theorem cellsOf_bound (s : List Int) : ∀ x ∈ cellsOf s, 0 ≤ x ∧ x ≤ 1000000 := fun x hx => by
  unfold cellsOf at hx
  rcases List.mem_append.mp hx with hx | hx
  · obtain ⟨y, _, rfl⟩ := List.mem_map.mp hx
    have h1 := Int.emod_nonneg y (b := 1000000) (by decide)
    have h2 := Int.emod_lt_of_pos y (b := 1000000) (by decide)
    rw [← Int.fmod_eq_emod_of_nonneg _ (by decide)] at h1 h2
    omega
  · have := List.mem_of_mem_drop hx
    simp only [List.mem_cons, List.not_mem_nil, or_false] at this
    omega
noncomputable def cellAt (s : List Int) (k : Nat) : Int := (cellsOf s).getD k 0
theorem cellAt_get (s : List Int) {k : Nat} (hk : k < 7) : (cellsOf s)[k]? = some (cellAt s k) := by
  unfold cellAt
  have : k < (cellsOf s).length := by rw [cellsOf_len]; exact hk
  simp [List.getD, this]
theorem cellAt_bound (s : List Int) {k : Nat} (hk : k < 7) : 0 ≤ cellAt s k ∧ cellAt s k ≤ 1000000 := cellsOf_bound s _ (List.mem_of_getElem? (cellAt_get s hk))
noncomputable def szI (s : List Int) : Int := 3 + (cellAt s 0).fmod 4
noncomputable def mnI (s : List Int) : Int := if 4 < szI s then 4 else szI s
noncomputable def sdI (s : List Int) : Int := 1 + ((cellAt s 0).fdiv 4).fmod (mnI s)
noncomputable def wdI (s : List Int) : Int := 6 + ((cellAt s 0).fdiv 24).fmod 8
noncomputable def kdI (s : List Int) : Str := if szI s < 5 then ("-ab" : Str) else ("-a" : Str)
noncomputable def sgI (s : List Int) (k : Nat) : Str := Txt.item (kdI s) ((cellAt s (k + 1)).fmod (kdI s).length)
noncomputable def wrI (s : List Int) : Str := Txt.join ("" : Str) ((List.range (szI s).toNat).map (sgI s))
theorem fm {a b : Int} (hb : 0 < b) : 0 ≤ a.fmod b ∧ a.fmod b < b := by
  rw [Int.fmod_eq_emod_of_nonneg _ (by omega)]
  exact ⟨Int.emod_nonneg _ (by omega), Int.emod_lt_of_pos _ hb⟩
theorem szI_bound (s : List Int) : 3 ≤ szI s ∧ szI s ≤ 6 := by unfold szI; have := fm (a := cellAt s 0) (b := 4) (by decide); omega
theorem mnI_bound (s : List Int) : 3 ≤ mnI s ∧ mnI s ≤ 4 := by unfold mnI; have := szI_bound s; split <;> omega
theorem kdI_len (s : List Int) : 2 ≤ (kdI s).length ∧ (kdI s).length ≤ 3 := by unfold kdI; split <;> decide
theorem join_one_len (ys : List Str) (h : ∀ x ∈ ys, x.length = 1) : (Txt.join ("" : Str) ys).length ≤ ys.length := by
  have := join_len ("" : Str) ys (c := 1) fun x hx => by rw [h x hx]; exact Nat.le_refl _
  rw [show ("" : Str).length = 0 from rfl] at this
  omega
theorem sgI_len (s : List Int) (k : Nat) : (sgI s k).length = 1 := rfl
theorem wrI_len (s : List Int) : (wrI s).length ≤ 6 := by
  have := join_one_len ((List.range (szI s).toNat).map (sgI s)) fun x hx => by obtain ⟨k, _, rfl⟩ := List.mem_map.mp hx; rfl
  have h := szI_bound s
  rw [List.length_map, List.length_range] at this
  unfold wrI
  omega
noncomputable def fdLaw (pm cd doc dV kV : Value) : FuncData := { docDef ("law" : Str) (argsOf (topStmt 26)) (bodyOf (topStmt 26)) (scopeOf (topStmt 26)) pm cd doc with defaults := dV, kwdefaults := kV }
noncomputable abbrev rhoA (sc : List Int) : List (Str × D) := [("word", .str (wrI sc)), ("kinds", .str (kdI sc)), ("width", .int (wdI sc)), ("sends", .int (sdI sc)), ("size", .int (szI sc)), ("cells", .lst ((cellsOf sc).map .int))]
structure LawN (mg mb : Str → Option Value) : Prop where
  n : Nms mg mb
  mn : Glb mg mb "min" (.builtin "min")
  sm : Glb mg mb "sum" (.builtin "sum")
section
variable {w : World} {B₀ : Heap} {A : Around} {MU md : List Addr} {ω : List (Addr × List D)} {s₀ s : Shared} {E : Value → Shared → Prop} {mg mb : Str → Option Value} {pm cd doc dV kV : Value} {L fa : Addr} {Q : Flow → Shared → Prop}
theorem law_a (B : Base B₀ mg mb) (N : LawN mg mb) {sc : List Int} {sa : Addr} {svs : List Value} (hL : B₀.IsList sa svs.toArray) (hI : IntsAre svs sc) (hsc : sc.length ≤ 63) (hA : A.handled = none) (S : St B₀ s₀ md (callEnvC (fdLaw pm cd doc dV kV) L fa) MU [("script", .raw (.ref sa))] ω s)
    (h : ∀ s', St B₀ s₀ md (callEnvC (fdLaw pm cd doc dV kV) L fa) MU (rhoA sc) ω s' → wpAny (model theProg w) A (execs ((bodyOf (topStmt 26)).drop 7) (callEnvC (fdLaw pm cd doc dV kV) L fa)) Q E s') :
    wpAny (model theProg w) A (execs (bodyOf (topStmt 26)) (callEnvC (fdLaw pm cd doc dV kV) L fa)) Q E s := by
  show wpAny _ _ (execs (_ :: _) _) _ _ _
  refine wpAny_execs_cons (s_assign (d := .lst (((sc.take 7).map fun x => x.fmod 1000000).map .int)) S (Ev.cast (Ev.comp1 (cl := []) (ds := (sc.take 7).map .int) (ρf := []) (p := fun _ => true) (f := fun d => match d with | .int x => .int (x.fmod 1000000) | _ => .none) (bs := fun d => [("x", d)]) hA
    ⟨fun x => rfl, rfl, (fun y c e => (by cases e)), rfl, by decide +kernel⟩ (It.list hA (Ev.rcut (n := 7) (Ev.name rfl) hL hI Ev.cInt (by omega)) (sz (by simp; omega))) trivial
    (fun C d _ => ⟨[C], AsT.name (.inl ⟨rfl, rfl⟩), by simp⟩) (fun d y e q => by cases q) (fun C MU d hd => Tss.nil) (fun C MU d hd _ => ?_)) ?_) (.inr ⟨rfl, rfl⟩) fun s₂ S₂ => ?_)
  · obtain ⟨x, _, rfl⟩ := List.mem_map.mp hd
    exact Ev.mod (Ev.name rfl) (Ev.cast (Ev.pow Ev.cInt Ev.cInt (by decide) (by decide) (by decide +kernel)) rfl) (by decide)
  · congr 1
    rw [filt_true, List.map_map, List.map_map]; rfl
  show wpAny _ _ (execs (_ :: _) _) _ _ _
  have hlen : ((sc.take 7).map fun x => x.fmod 1000000).length = (sc.take 7).length := by rw [List.length_map]
  have htk : (sc.take 7).length ≤ 7 := by rw [List.length_take]; omega
  refine wpAny_execs_cons (s_assign (d := .lst ((cellsOf sc).map .int)) S₂ (Ev.cast (Ev.ladd (Ev.name rfl) (Ev.lcut (ds' := (([3, 0, 1, 0, 0, 1, 0] : List Int).map D.int).drop (sc.take 7).length) (Ev.list (.cons Ev.cInt rfl (.cons Ev.cInt rfl (.cons Ev.cInt rfl (.cons Ev.cInt rfl (.cons Ev.cInt rfl (.cons Ev.cInt rfl (.cons Ev.cInt rfl .nil))))))) (sz (by simp))) (.some (Ev.lenL B (Ev.name rfl) (by rw [List.length_map, hlen]; omega) N.n.len)) .none (sz (by simp)) (fun h vs r => ?_)) (sz ?_)) ?_) (.inr ⟨rfl, rfl⟩) fun s₃ S₃ => ?_)
  · rw [List.length_map, hlen]
    exact cut_from (by simpa using htk) h vs r
  · simp only [List.length_map, List.length_drop, List.length_cons, List.length_nil]; omega
  · congr 1
    unfold cellsOf
    rw [List.map_append, List.map_drop]
  have hcl : ((cellsOf sc).map D.int).length = 7 := by rw [List.length_map, cellsOf_len]
  have gc : ∀ k, k < 7 → ((cellsOf sc).map D.int)[k]? = some (.int (cellAt sc k)) := fun k hk => by rw [List.getElem?_map, cellAt_get sc hk]; rfl
  have b0 := cellAt_bound sc (k := 0) (by decide)
  have noP : ∀ {x y : Int}, y.natAbs < 100 → Builtin.divisionGoesByPylong x y = false := fun h => noPy (Nat.lt_of_lt_of_le h (Nat.le_trans (by decide : 100 ≤ 2 ^ 10) (Nat.pow_le_pow_right (by decide) (by decide))))
  have sb := szI_bound sc
  have mb' := mnI_bound sc
  show wpAny _ _ (execs (_ :: _) _) _ _ _
  refine wpAny_execs_cons (s_assign (d := .int (szI sc)) S₃ (Ev.cast (Ev.add Ev.cInt (Ev.mod (Ev.idx (Ev.name rfl) Ev.cInt (by decide) (by decide) (gc 0 (by decide))) Ev.cInt (by decide))) rfl) (.inr ⟨rfl, rfl⟩) fun s₄ S₄ => ?_)
  show wpAny _ _ (execs (_ :: _) _) _ _ _
  refine wpAny_execs_cons (s_assign (d := .int (sdI sc)) S₄ (Ev.cast (Ev.add Ev.cInt (Ev.mod (Ev.div (Ev.idx (Ev.name rfl) Ev.cInt (by decide) (by decide) (gc 0 (by decide))) Ev.cInt (by decide) (noP (by decide))) (Ev.cast (d' := .int (mnI sc)) (Ev.min2 B hA N.mn (Ev.name rfl) Ev.cInt) rfl) (by omega))) rfl) (.inr ⟨rfl, rfl⟩) fun s₅ S₅ => ?_)
  show wpAny _ _ (execs (_ :: _) _) _ _ _
  refine wpAny_execs_cons (s_assign (d := .int (wdI sc)) S₅ (Ev.cast (Ev.add Ev.cInt (Ev.mod (Ev.div (Ev.idx (Ev.name rfl) Ev.cInt (by decide) (by decide) (gc 0 (by decide))) Ev.cInt (by decide) (noP (by decide))) Ev.cInt (by decide))) rfl) (.inl ⟨rfl, rfl⟩) fun s₆ S₆ => ?_)
  show wpAny _ _ (execs (_ :: _) _) _ _ _
  refine wpAny_execs_cons (s_assign (d := .str (kdI sc)) S₆ (Ev.ite (Ts.lt (Ev.name rfl) Ev.cInt) (fun hc => Ev.cast Ev.cStr (by unfold kdI; rw [if_pos (of_decide_eq_true hc)])) (fun hc => Ev.cast Ev.cStr (by unfold kdI; rw [if_neg (of_decide_eq_false hc)]))) (.inr ⟨rfl, rfl⟩) fun s₇ S₇ => ?_)
  show wpAny _ _ (execs (_ :: _) _) _ _ _
  have kl := kdI_len sc
  refine wpAny_execs_cons (s_assign (d := .str (wrI sc)) S₇ (Ev.join (x := ("" : Str)) (ys := (List.range (szI sc).toNat).map (sgI sc)) Ev.cStr (Ev.cast (Ev.comp1 (cl := [("kinds", L + 4), ("cells", L + 1)]) (ρf := [("kinds", .str (kdI sc)), ("cells", .lst ((cellsOf sc).map .int))]) (p := fun _ => true) (f := fun d => match d with | .int k => .str (sgI sc k.toNat) | _ => .none) (bs := fun d => [("k", d)]) hA
      ⟨fun x => rfl, rfl, (fun y c e => cl_cons rfl (cl_one rfl) e), rfl, by decide +kernel⟩ (It.range1 (b := szI sc) B hA N.n.range (Ev.name rfl) (by omega) (by omega) (sz (by omega))) ⟨⟨rfl, rfl, rfl, rfl, rfl⟩, ⟨rfl, rfl, rfl, rfl, rfl⟩, trivial⟩
      (fun C d _ => ⟨[C], AsT.name (.inl ⟨rfl, rfl⟩), by simp⟩) (fun d => lk_skip rfl (lk_refl _)) (fun C MU d hd => Tss.nil) (fun C MU d hd _ => ?_)) ?_) ?_) (.inl ⟨rfl, rfl⟩) fun s₈ S₈ => ?_)
  · obtain ⟨k, hk, rfl⟩ := List.mem_map.mp hd
    have hk6 : k < (szI sc).toNat := by simpa using hk
    simp only [Int.zero_add, Int.toNat_natCast]
    have hf := fm (a := cellAt sc (k + 1)) (b := ((kdI sc).length : Int)) (by omega)
    exact Ev.sidx (x := kdI sc) (Ev.name rfl) (Ev.mod (Ev.idx (Ev.name rfl) (Ev.add (Ev.name rfl) Ev.cInt) (by omega) (by omega) (by
      have : ((k : Int) + 1).toNat = k + 1 := by omega
      rw [this]
      exact gc (k + 1) (by omega))) (Ev.lenS B (Ev.name rfl) (by omega) N.n.len) (by omega)) hf.1 hf.2 (by omega)
  · congr 1
    rw [filt_true, rng, List.map_map, List.map_map]
    simp
  · have h1 := sum_le (f := fun y : Str => y.length) (c := 1) ((List.range (szI sc).toNat).map (sgI sc)) (fun x hx => by obtain ⟨k, hk, rfl⟩ := List.mem_map.mp hx; exact Nat.le_refl _)
    rw [List.length_map, List.length_range] at h1
    rw [List.length_map, List.length_range, show ("" : Str).length = 0 from rfl]
    omega
  exact h s₈ (S₈.weak (lk_one rfl (lk_one rfl (lk_one rfl (lk_one rfl (lk_one rfl (lk_one rfl lk_nil)))))))
end
end Mine
end
end
section
set_option Elab.async false
noncomputable section
open PySem PySem.W PySem.Calls PyProof.Rows
set_option maxRecDepth 100000
set_option linter.unusedVariables false
set_option maxHeartbeats 1000000
namespace Mine
noncomputable def wordsOf (word : Str) : List Str := wAll word word.length
noncomputable def ringsOf (sends : Nat) (word : Str) : List (List Str) := (rgAt sends (wordsOf word) (wordsOf word).length).1
noncomputable def sentVs (size sends : Nat) (word en : Str) : List Str :=
  (List.range (wordsOf word).length).map fun j => sentOf (laidAt size (Txt.split (mailAt (wordsOf word) size en sends) crlfS) (Txt.split (mailAt (wordsOf word) size en sends) crlfS).length) j
noncomputable def dueAt (ring : List Str) (r k : Nat) : Str × Str := (if k % 2 = 1 then Txt.upper (ring.getD k ("" : Str)) else ring.getD k ("" : Str), tagS r)
noncomputable def dueRing (ring : List Str) (r n : Nat) : List (Str × Str) := (List.range n).map (dueAt ring r)
noncomputable def dueTo (rings : List (List Str)) (n : Nat) : List (Str × Str) := (List.range n).flatMap fun r => dueRing (rings.getD r []) r (rings.getD r []).length
theorem dueRing_succ (ring : List Str) (r n : Nat) : dueRing ring r (n + 1) = dueRing ring r n ++ [dueAt ring r n] := by
  unfold dueRing; rw [List.range_succ, List.map_append]; rfl
theorem dueTo_succ (rings : List (List Str)) (n : Nat) : dueTo rings (n + 1) = dueTo rings n ++ dueRing (rings.getD n []) n (rings.getD n []).length := by
  unfold dueTo; rw [List.range_succ, List.flatMap_append]; simp
theorem dueTo_len {rings : List (List Str)} (h : ∀ r ∈ rings, r.length ≤ 6) : ∀ n, (dueTo rings n).length ≤ 6 * n
  | 0 => by simp [dueTo]
  | n + 1 => by
    rw [dueTo_succ, List.length_append]
    have := dueTo_len h n
    have h2 : (dueRing (rings.getD n []) n (rings.getD n []).length).length ≤ 6 := by
      unfold dueRing
      rw [List.length_map, List.length_range]
      rcases Nat.lt_or_ge n rings.length with q | q
      · have : rings.getD n [] = rings[n] := by simp [List.getD, q]
        rw [this]; exact h _ (List.getElem_mem q)
      · have : rings.getD n [] = [] := by simp [List.getD, q]
        rw [this]; simp
    omega
/-- what the case must show for the first half -/
structure LawOk (size sends : Nat) (word en : Str) : Prop where
  s3 : 3 ≤ size ∧ size ≤ 6
  sd : 1 ≤ sends ∧ sends ≤ 4
  wl : word.length ≤ 6
  many : (wordsOf word).length ≤ 100
  ring : ∀ x ∈ wordsOf word, RingOk sends x
  sent : SentOk (wordsOf word) size sends en
  filed : FiledOk (wordsOf word) (wordsOf word) (sentVs size sends word en)
  due : (flAt (aft (wordsOf word) (sentVs size sends word en)) (wordsOf word) (wordsOf word).length).1 = dueTo (ringsOf sends word) (ringsOf sends word).length
  rl : ∀ r ∈ ringsOf sends word, r.length ≤ 6
  rw6 : ∀ r ∈ ringsOf sends word, ∀ x ∈ r, x.length ≤ 6
noncomputable abbrev rhoB (size sends width : Nat) (kd word : Str) (cs : List Int) : List (Str × D) := [("word", .str word), ("kinds", .str kd), ("width", .int (width : Int)), ("sends", .int (sends : Int)), ("size", .int (size : Int)), ("cells", .lst (cs.map .int))]
structure LawF (K : Frag) (B₀ : Heap) (mg mb : Str → Option Value) : Prop where
  n : LawN mg mb
  f : Fls K B₀ mg mb
  q : Qts B₀ mg mb
  gq : Glb mg mb "quotedata" (.ref 97)
  gw : Glb mg mb "_law_words" (.ref 252)
  gr : Glb mg mb "_law_rings" (.ref 271)
  gs : Glb mg mb "_law_sent" (.ref 257)
  gf : Glb mg mb "_law_filed" (.ref 264)
  dw : Def B₀ 252 fdWords (bodyOf (topStmt 22)) ["word"]
  dr : Def B₀ 271 fdRings (bodyOf (topStmt 25)) ["words", "sends"]
  ds : Def B₀ 257 fdSent (bodyOf (topStmt 23)) ["words", "sends", "end"]
  df : Def B₀ 264 fdFiled (bodyOf (topStmt 24)) ["words", "after"]
section
variable {w : World} {B₀ : Heap} {A : Around} {MU md : List Addr} {s₀ s : Shared} {E : Value → Shared → Prop} {mg mb : Str → Option Value} {pm cd doc dV kV : Value} {L fa : Addr} {Q : Flow → Shared → Prop}
theorem law_b {K : Frag} (B : Base B₀ mg mb) (F : LawF K B₀ mg mb) {size sends width : Nat} {kd word en : Str} {cs : List Int} (O : LawOk size sends word en) (hcs : ∀ x ∈ cs, 0 ≤ x ∧ x ≤ 1000000) (hcl : cs.length ≤ 100) (hen : ([("\n" : Str), ("\r" : Str), ("\r\n" : Str)])[(cs.sum.fmod 3).toNat]? = some en)
    (hA : A.handled = none) (hd : A.depth + 100 < recursionLimit) (hu : A.units + 100 < cLine) (hbM : ∀ b ∈ MU, B₀.get? b = none) (S : St B₀ s₀ md (callEnvC (fdLaw pm cd doc dV kV) L fa) MU (rhoB size sends width kd word cs) [] s)
    (h : ∀ s', St B₀ s₀ md (callEnvC (fdLaw pm cd doc dV kV) L fa) MU (("rings", .lst ((ringsOf sends word).map strL)) :: rhoB size sends width kd word cs) [] s' → wpAny (model theProg w) A (execs ((bodyOf (topStmt 26)).drop 13) (callEnvC (fdLaw pm cd doc dV kV) L fa)) Q E s') :
    wpAny (model theProg w) A (execs ((bodyOf (topStmt 26)).drop 7) (callEnvC (fdLaw pm cd doc dV kV) L fa)) Q E s := by
  have wl := O.wl
  have many := O.many
  have sd := O.sd
  have s3 := O.s3
  have hwl : (wordsOf word).length ≤ 100 := many
  show wpAny _ _ (execs (_ :: _) _) _ _ _
  refine wpAny_execs_cons (s_assign (d := strL (wordsOf word)) S (Ev.call (ds := [.str word]) B F.gw (CW.fn F.dw.fn) (.cons (Ev.name rfl) rfl .nil) fun vs s E r Fr => words_ok B F.n.n F.dw wl hA (by omega) Fr.g Fr.low r) (.inl ⟨rfl, rfl⟩) fun s₂ S₂ => ?_)
  show wpAny _ _ (execs (_ :: _) _) _ _ _
  refine wpAny_execs_cons (s_assign (d := .lst ((ringsOf sends word).map strL)) S₂ (Ev.call (ds := [strL (wordsOf word), .int (sends : Int)]) B F.gr (CW.fn F.dr.fn) (.cons (Ev.name rfl) rfl (.cons (Ev.name rfl) rfl .nil)) fun vs s E r Fr => rings_ok B F.n.n F.dr (by omega) O.ring hA (by omega) Fr.g Fr.low r) (.inr ⟨rfl, rfl⟩) fun s₃ S₃ => ?_)
  have hrl : (ringsOf sends word).length ≤ 100 := by
    have := (rg_len O.ring (wordsOf word).length).2
    show (rgAt sends (wordsOf word) (wordsOf word).length).1.length ≤ 100
    omega
  have rl := O.rl
  have rw6 := O.rw6
  have hdl := dueTo_len rl
  have hsent := O.sent
  have hfiled := O.filed
  have hdue := O.due
  generalize hrg : ringsOf sends word = rings at *
  generalize hws : wordsOf word = ws at *
  show wpAny _ _ (execs (_ :: _) _) _ _ _
  refine wpAny_execs_cons (s_new S₃ (EvN.list .nil (sz (by simp))) (.inl ⟨rfl, rfl⟩) fun dl s₄ hdlM S₄ => ?_)
  show wpAny _ _ (execs (_ :: _) _) _ _ _
  let ρ1 : List (Str × D) := ("due", .raw (.ref dl)) :: ("rings", .lst (rings.map strL)) :: ("words", strL ws) :: rhoB size sends width kd word cs
  refine wpAny_execs_cons (s_for0 (ds := rng 0 rings.length) (fun _ => ρ1) (fun i => [(dl, (dueTo rings i).map pairD)]) S₄ (It.range1 B hA F.n.n.range (Ev.cast (Ev.lenL B (Ev.name rfl) (by rw [List.length_map]; omega) F.n.n.len) (by rw [List.length_map])) (by omega) (by omega) (sz (by omega))) (lk_refl _) rfl (fun i => rfl) (fun i d MU' s₀' md' s₅ E v ed hM S₅ rv => ?_) fun s₅ S₅ => ?_)
  · have hi : i < rings.length := by
      have := (List.getElem?_eq_some_iff.mp ed).1
      simpa [rng] using this
    have ed' : d = .int (i : Int) := by
      simp [rng, hi] at ed; exact ed.symm
    subst ed'
    have gi : (rings.map strL)[((i : Int)).toNat]? = some (strL rings[i]) := by rw [Int.toNat_natCast]; simp [hi]
    have ge : rings.getD i [] = rings[i] := by simp [List.getD, hi]
    have r6 := rl _ (List.getElem_mem hi)
    have x6 := rw6 _ (List.getElem_mem hi)
    refine S₅.assign (.inl ⟨rfl, rfl⟩) rv fun s₆ S₆ => ?_
    show wpAny _ _ (execs (_ :: _) _) _ _ _
    refine wpAny_execs_cons (s_for0 (ds := rng 0 (rings[i]).length) (fun _ => ("r", .int (i : Int)) :: ρ1) (fun j => [(dl, (dueTo rings i ++ dueRing rings[i] i j).map pairD)]) S₆ (It.range1 B hA F.n.n.range (Ev.cast (Ev.lenL (ds := (rings[i]).map .str) B (Ev.idx (Ev.name rfl) (Ev.name (d := .int (i : Int)) rfl) (by omega) (by omega) gi) (by rw [List.length_map]; omega) F.n.n.len) (by rw [List.length_map])) (by omega) (by omega) (sz (by omega))) (lk_refl _) (by simp [dueRing]) (fun i => rfl) (fun j d MU'' s₀'' md'' s₇ E v ed hM'' S₇ rv => ?_) fun s₇ S₇ => ?_)
    · have hj : j < (rings[i]).length := by
        have := (List.getElem?_eq_some_iff.mp ed).1
        simpa [rng] using this
      have ed' : d = .int (j : Int) := by
        simp [rng, hj] at ed; exact ed.symm
      subst ed'
      have gj : ((rings[i]).map D.str)[((j : Int)).toNat]? = some (.str (rings[i])[j]) := by rw [Int.toNat_natCast]; simp [hj]
      have gje : (rings[i]).getD j ("" : Str) = (rings[i])[j] := by simp [List.getD, hj]
      have y6 := x6 _ (List.getElem_mem hj)
      have item : ∀ {MU ρ}, ρ.lookup ("rings" : Str) = some (.lst (rings.map strL)) → ρ.lookup ("r" : Str) = some (.int (i : Int)) → ρ.lookup ("k" : Str) = some (.int (j : Int)) → ∀ {p1 p2 p3 p4 p5}, Ev theProg w B₀ A (callEnvC (fdLaw pm cd doc dV kV) L fa) MU ρ (.Subscript (.Subscript (.Name ("rings" : Str) p1) (.Name ("r" : Str) p2) p3) (.Name ("k" : Str) p4) p5) (.str (rings[i])[j]) := fun e1 e2 e3 =>
        Ev.idx (ds := (rings[i]).map .str) (Ev.idx (Ev.name e1) (Ev.name e2) (by omega) (by omega) gi) (Ev.name e3) (by omega) (by omega) gj
      refine S₇.assign (.inl ⟨rfl, rfl⟩) rv fun s₈ S₈ => ?_
      show wpAny _ _ (execs (_ :: _) _) _ _ _
      have hmod : (((j : Int)).fmod 2 == 1) = decide (j % 2 = 1) := by
        rw [Int.fmod_eq_emod_of_nonneg _ (by decide)]
        by_cases q : j % 2 = 1
        · rw [decide_eq_true q]; simp; omega
        · rw [decide_eq_false q]; simp; omega
      have hl1 := hdl i
      refine wpAny_execs_cons (s_append (ω₁ := []) (d := pairD (dueAt rings[i] i j)) S₈ (Ev.name rfl) (Ev.tuple (.cons (Ev.ite (Ts.eq (Ev.mod (Ev.name rfl) Ev.cInt (by decide)) Ev.cInt) (fun hb => ?_) (fun hb => ?_)) rfl (.cons (Ev.strI B F.f.hf.st (Ev.name rfl) (by omega)) rfl .nil)) (sz (by simp))) (sz ?_) fun s₉ S₉ => ?_)
      · rw [hmod] at hb
        show Ev _ _ _ _ _ _ _ _ (.str (if j % 2 = 1 then Txt.upper ((rings[i]).getD j ("" : Str)) else (rings[i]).getD j ("" : Str)))
        rw [if_pos (of_decide_eq_true hb), gje]
        exact Ev.upper (item rfl rfl rfl) (by omega)
      · rw [hmod] at hb
        show Ev _ _ _ _ _ _ _ _ (.str (if j % 2 = 1 then Txt.upper ((rings[i]).getD j ("" : Str)) else (rings[i]).getD j ("" : Str)))
        rw [if_neg (of_decide_eq_false hb), gje]
        exact item rfl rfl rfl
      · simp only [List.length_map, List.length_append, dueRing, List.length_range]; omega
      · refine wpAny_execs_nil ⟨rfl, ?_⟩
        have q := S₉.weak (ρ' := ("r", .int (i : Int)) :: ρ1) (lk_skip rfl (lk_refl _))
        rw [dueRing_succ, ← List.append_assoc, List.map_append]
        exact q
    · rw [rng_len, show (((rings[i]).length : Int) - 0).toNat = (rings[i]).length by omega] at S₇
      refine wpAny_execs_nil ⟨rfl, ?_⟩
      rw [dueTo_succ, ge]
      exact S₇.weak (lk_skip rfl (lk_refl _))
  · rw [rng_len, show ((rings.length : Int) - 0).toNat = rings.length by omega] at S₅
    have S₆ := S₅.freeze (x := "due") hdlM rfl
    show wpAny _ _ (execs (_ :: _) _) _ _ _
    have sb := sum_bound hcs
    refine wpAny_execs_cons (s_assign (d := .dct theProg w ws ((sentVs size sends word en).map .str)) S₆ (Ev.call (ds := [strL ws, .int (sends : Int), .str en]) B F.gs (CW.fn F.ds.fn) (.cons (Ev.name rfl) rfl (.cons (Ev.name rfl) rfl (.cons (Ev.idx (ds := [.str ("\n" : Str), .str ("\r" : Str), .str ("\r\n" : Str)]) (Ev.list (.cons Ev.cStr rfl (.cons Ev.cStr rfl (.cons Ev.cStr rfl .nil))) (sz (by simp))) (Ev.mod (Ev.sumL B hA F.n.sm (Ev.name rfl) hcs hcl) Ev.cInt (by decide)) (fm (by decide)).1 (Int.lt_of_lt_of_le (fm (by decide)).2 (by decide)) ?_) rfl .nil))) fun vs s E r Fr => ?_) (.inl ⟨rfl, rfl⟩) fun s₇ S₇ => ?_)
    · have := congrArg (Option.map D.str) hen
      rw [← List.getElem?_map] at this
      exact this
    · have := sent_ok (w := w) (A := A) (E := E) B F.n.n F.ds F.q F.gq hsent hA (by omega) Fr.g Fr.low r
      unfold sentVs
      rw [hws, List.map_map]
      exact this
    · show wpAny _ _ (execs (_ :: _) _) _ _ _
      refine wpAny_execs_cons (s_if S₇ (Ts.neL (ds := (dueTo rings rings.length).map pairD) (Ev.call (ds := [strL ws, .dct theProg w ws ((sentVs size sends word en).map .str)]) B F.gf (CW.fn F.df.fn) (.cons (Ev.name rfl) rfl (.cons (Ev.name rfl) rfl .nil)) fun vs s E r Fr => ?_) (Ev.name rfl) (by omega) fun s d v u hd r1 r2 => ?_) fun s₈ S₈ => ?_)
      · have := filed_ok (w := w) (A := A) (E := E) B F.n.n F.f F.df hfiled hA (by omega) Fr.g Fr.low hbM r
        rw [hdue] at this
        exact this
      · obtain ⟨p, _, rfl⟩ := List.mem_map.mp hd
        exact eqAt_pair (by show A.units + 1 < cLine; omega) r1 r2
      · refine wpAny_execs_nil ?_
        exact h s₈ (S₈.weak (lk_one rfl (lk_one rfl (lk_one rfl (lk_one rfl (lk_one rfl (lk_one rfl (lk_one rfl lk_nil))))))))
end
end Mine
end
end
section
set_option Elab.async false
noncomputable section
open PySem PySem.W PySem.Calls PyProof.Rows
set_option maxRecDepth 100000
set_option linter.unusedVariables false
set_option maxHeartbeats 1000000
set_option exponentiation.threshold 10
namespace Mine
theorem rp_lstR {h : Heap} {a : Addr} {ds : List D} (r : Rp h (.ref a) (.lst ds)) : ∃ vs, h.PlainList a vs.toArray ∧ Rps h vs ds := by cases r with | lst p q => exact ⟨_, p, q⟩
section
variable {prog : Program} {w : World} {B₀ : Heap} {A : Around} {env : Env} {MU md : List Addr} {ρ : List (Str × D)} {ω : List (Addr × List D)} {s₀ s : Shared} {E : Value → Shared → Prop} {mg mb : Str → Option Value} {pos : Pos}
/-- x = -f(..)[1] where the call may turn the tables -/
theorem s_negT (B : Base B₀ mg mb) (I : IntF B₀ mg mb) {fn x : Str} {f a : Addr} {es : List Expr} {ds : List D} {q r : Int} {np px cpos kp sp up : Pos} {kk : Nat} {Q : Flow → Shared → Prop} (S : St B₀ s₀ md env MU ρ ω s) (hbM : ∀ b ∈ MU, B₀.get? b = none) (hg : Glb mg mb fn (.ref f)) (FN : FnAt f B₀) (hes : Evs prog w B₀ A env MU ρ es ds) (T : SlotOf env x a)
    (hcall : ∀ vs s' E, Rps (Hid MU s'.heap) vs ds → Sub B₀ s'.heap → Low MU s'.heap → wpAny (model prog w) A (call (.ref f) vs) (PostT MU (.tup [.int q, .int r]) s') E s')
    (h : ∀ B₁ s₁, SubB TT B₀ B₁ → Base B₁ mg mb → IntF B₁ mg mb → (∀ b ∈ MU, B₁.get? b = none) → St B₁ s₀ (TT ++ md) env MU ((x, .int (-r)) :: ρ) ω s₁ → Q .next s₁)
    (hk : env.kindOf fn = some .globalImplicit := by rfl) (hd : (fn == ("__debug__" : Str)) = false := by decide +kernel)
    (hs : ∀ o j, subscripted (.Constant (.int 1) kk kp) false (.ref o) (.int 1 j) = operate [.ref o, .int 1 j] (getItem (.ref o) (.int 1 j)) := by intro _ _; rfl)
    (hsw : swapsWith (.UnaryOp .USub (.Subscript (.Call (.Name fn np) es [] cpos) (.Constant (.int 1) kk kp) sp) up) (some (.Name x px)) pos.line env = pure false := by rfl) :
    wpAny (model prog w) A (exec (.Assign [.Name x px] (.UnaryOp .USub (.Subscript (.Call (.Name fn np) es [] cpos) (.Constant (.int 1) kk kp) sp) up) pos) env) Q E s := by
  refine wpAny_Assign_Name (UnaryOp_ (Subscript_ (evT B I S hbM hg FN hes hcall (fun B₁ v s₁ k B' I' hb rv S₁ => ?_) hk hd))) hsw
  refine wpAny_mono ((Ev.cInt (prog := prog) (w := w) (B₀ := B₁) (A := A) (env := env) (mu := MU) (ρ := ρ) (i := 1) (k := kk) (pos := kp)) s₁ _ S₁.f) (fun vi s₂ ⟨ri, K₂⟩ => ?_) fun _ _ x => x
  have S₂ := S₁.kp K₂
  have rv₂ := rv.mono K₂.hid
  obtain ⟨j, rfl⟩ := rp_int ri
  replace rv₂ := rp_tup rv₂; obtain ⟨t, vs, rfl, e, rs⟩ := rv₂
  replace rs := rps_cons rs; obtain ⟨_, _, rfl, r1, rs⟩ := rs
  replace rs := rps_cons rs; obtain ⟨v2, _, rfl, r2, rs⟩ := rs
  (first | obtain ⟨_, rfl⟩ := rp_int rs | obtain ⟨_, rfl⟩ := rp_str rs | obtain rfl := rp_raw rs | obtain rfl := rps_nil rs | cases rs)
  obtain ⟨u, rfl⟩ := rp_int r2
  obtain ⟨n, e⟩ := e
  have ht := (hid_get e).2
  refine tail_any (T := "tuple") ⟨_, ht, rfl⟩ slot_tuple_getitem.lookup (P.getItem_tuple (n := n) ht (by decide) (by decide) (k := 1) rfl rfl ?_) (hs _ _)
  refine PyProof.Rows.neg_int ?_
  exact (S₂.kp (Kp.tok s₂ _)).store T (.int _ _) fun s₃ S₃ => h B₁ s₃ k B' I' hb S₃
/-- x = (f(..) + e)[:hi] where the call may turn the tables -/
theorem s_figT (B : Base B₀ mg mb) (I : IntF B₀ mg mb) {fn x : Str} {f a : Addr} {es : List Expr} {ds as bs : List D} {n : Nat} {np px cpos bp sp up : Pos} {e2 hi : Expr} {Q : Flow → Shared → Prop} (S : St B₀ s₀ md env MU ρ ω s) (hbM : ∀ b ∈ MU, B₀.get? b = none) (hg : Glb mg mb fn (.ref f)) (FN : FnAt f B₀) (hes : Evs prog w B₀ A env MU ρ es ds) (T : SlotOf env x a)
    (hcall : ∀ vs s' E, Rps (Hid MU s'.heap) vs ds → Sub B₀ s'.heap → Low MU s'.heap → wpAny (model prog w) A (call (.ref f) vs) (PostT MU (.lst as) s') E s')
    (h2 : ∀ B₁, Ev prog w B₁ A env MU ρ e2 (.lst bs)) (hhi : ∀ B₁, Ev prog w B₁ A env MU ρ hi (.int (n : Int))) (hl : as.length + bs.length ≤ 1000)
    (h : ∀ B₁ s₁, SubB TT B₀ B₁ → Base B₁ mg mb → IntF B₁ mg mb → (∀ b ∈ MU, B₁.get? b = none) → St B₁ s₀ (TT ++ md) env MU ((x, .lst ((as ++ bs).take n)) :: ρ) ω s₁ → Q .next s₁)
    (hk : env.kindOf fn = some .globalImplicit := by rfl) (hd : (fn == ("__debug__" : Str)) = false := by decide +kernel)
    (hs : ∀ o k, subscripted (.Slice none (some hi) none sp) false (.ref o) (.ref k) = operate [.ref k, .ref o] (getItem (.ref o) (.ref k)) := by intro _ _; rfl)
    (hsw : swapsWith (.Subscript (.BinOp (.Call (.Name fn np) es [] cpos) .Add e2 bp) (.Slice none (some hi) none sp) up) (some (.Name x px)) pos.line env = pure false := by rfl) :
    wpAny (model prog w) A (exec (.Assign [.Name x px] (.Subscript (.BinOp (.Call (.Name fn np) es [] cpos) .Add e2 bp) (.Slice none (some hi) none sp) up) pos) env) Q E s := by
  refine wpAny_Assign_Name (Subscript_ (wpAny_BinOp (evT B I S hbM hg FN hes hcall (fun B₁ v s₁ k B' I' hb rv S₁ => ?_) hk hd))) hsw
  refine wpAny_mono (h2 B₁ s₁ _ S₁.f) (fun v2 s₂ ⟨r2, K₂⟩ => ?_) fun _ _ x => x
  have S₂ := S₁.kp K₂
  have rv₂ := rv.mono K₂.hid
  replace rv₂ := rp_lst rv₂; obtain ⟨l, vs, rfl, p1, q1⟩ := rv₂
  replace r2 := rp_lst r2; obtain ⟨l2, us, rfl, p2, q2⟩ := r2
  obtain ⟨n1, e1⟩ := plist p1
  obtain ⟨n2, e2⟩ := plist p2
  have l1 := q1.length
  have l2 := q2.length
  refine P.add_list e1 e2 ?_ (sz (by simp; omega))
  rw [show ∀ u v : List Value, u.toArray ++ v.toArray = (u ++ v).toArray from fun u v => by simp]
  have nl := newLst (s := s₂) S₂.f.low (q1.append q2)
  have S₃ := S₂.kp nl.2
  obtain ⟨s₃, e₃⟩ : ∃ s₃, s₃ = ({ s₂ with heap := s₂.heap.push { cls := .type "list", data := .seq (vs ++ us).toArray } } : Shared) := ⟨_, rfl⟩
  have rv₃ : Rp (Hid MU s₃.heap) (.ref s₂.heap.objs.size) (.lst (as ++ bs)) := by rw [e₃]; exact nl.1
  rw [← e₃] at S₃ ⊢
  refine wpAny_Slice (evalPart_none_step (evalPart_some_step (wpAny_mono (hhi B₁ s₃ _ S₃.f) (fun vh s₄ ⟨rh, K₄⟩ => evalPart_none_step ?_) fun _ _ x => x)))
  have S₄ := S₃.kp K₄
  have rv₄ := rv₃.mono K₄.hid
  obtain ⟨j, rfl⟩ := rp_int rh
  replace rv₄ := rp_lstR rv₄; obtain ⟨ws, p3, q3⟩ := rv₄
  have hL := (plist p3).isList
  have l3 := q3.length
  rw [List.length_append] at l3
  refine tail_any (Heap.IsList.typeIs (s := { s₄ with heap := s₄.heap.push { cls := .type "slice", data := .fields #[.none, .int (n : Int) j, .none] } }) (hL.push _)) list_getitem_lookup
    (wpAny_getItem_list_slice (hL.push _) (Heap.IsSliceOf.new ..) (isPart_of none) (isPart_of (some ((n : Int), j))) .none (by simp) ?_ (sz (by rw [List.size_toArray, l3]; omega))) (hs _ _)
  have e : slicePick ws.toArray (Option.map (·.1) (none : Option (Int × Tok))) (Option.map (·.1) (some ((n : Int), j))) none = (ws.take n).toArray := by
    show slicePick ws.toArray none (some (n : Int)) none = _
    rw [slicePick_upto']
  rw [e]
  have q := newLst (mu := MU) (s := { s₄ with heap := s₄.heap.push { cls := .type "slice", data := .fields #[.none, .int (n : Int) j, .none] } }) (Low.push S₄.f.low _) ((q3.take n).mono (Kp.push s₄ _).hid)
  exact ((S₄.kp (Kp.push s₄ _)).kp q.2).store T q.1 fun s₅ S₅ => h B₁ s₅ k B' I' hb S₅
end
end Mine
end
end
section
set_option Elab.async false
noncomputable section
open PySem PySem.W PySem.Calls PyProof.Rows
set_option maxRecDepth 100000
set_option linter.unusedVariables false
set_option maxHeartbeats 1000000
set_option exponentiation.threshold 10
namespace Mine
noncomputable def abN (b : Nat) : Nat → Nat
  | 0 => 1
  | n + 1 => abN b n * (b ^ (n + 1) - 1)
noncomputable def cntsOf (kd word : Str) : List Nat := kd.cps.toList.map fun c => (Txt.count word ⟨#[c]⟩).toNat
noncomputable def blAt (b : Nat) (cnts : List Nat) (i : Nat) : Nat := (cnts.take i).foldl (fun x c => x * abN b c) 1
theorem blAt_succ {b : Nat} {cnts : List Nat} {i c : Nat} (e : cnts[i]? = some c) : blAt b cnts (i + 1) = blAt b cnts i * abN b c := by
  unfold blAt; rw [List.take_add_one, e]; simp
theorem count_nat (x y : Str) : Txt.count x y = (((Txt.count x y).toNat : Nat) : Int) := by unfold Txt.count; simp
theorem abN_le {b : Nat} (hb : 0 < b) : ∀ n, abN b n ≤ b ^ (n * n)
  | 0 => by simp [abN]
  | n + 1 => by
    have ih := abN_le hb n
    show abN b n * (b ^ (n + 1) - 1) ≤ _
    have h : abN b n * (b ^ (n + 1) - 1) ≤ b ^ (n * n) * b ^ (n + 1) := Nat.mul_le_mul ih (Nat.sub_le _ _)
    rw [← Nat.pow_add] at h
    refine Nat.le_trans h (Nat.pow_le_pow_right hb ?_)
    rw [Nat.mul_add, Nat.add_mul]; omega
theorem abN_bits {width n : Nat} (hw : width ≤ 13) (hn : n ≤ 6) : abN (2 ^ width) n ≤ 2 ^ 468 := by
  refine Nat.le_trans (abN_le (Nat.two_pow_pos _) n) ?_
  rw [← Nat.pow_mul]
  refine Nat.pow_le_pow_right (by decide) ?_
  have h1 : n * n ≤ 6 * 6 := Nat.mul_le_mul hn hn
  have h2 : width * (n * n) ≤ 13 * 36 := Nat.mul_le_mul hw h1
  omega
theorem blAt_bits {width : Nat} {cnts : List Nat} (hw : width ≤ 13) (hc : ∀ c ∈ cnts, c ≤ 6) : ∀ i, blAt (2 ^ width) cnts i ≤ 2 ^ (468 * i)
  | 0 => by simp [blAt]
  | i + 1 => by
    have ih := blAt_bits hw hc i
    cases e : cnts[i]? with
    | none =>
      have : blAt (2 ^ width) cnts (i + 1) = blAt (2 ^ width) cnts i := by unfold blAt; rw [List.take_add_one, e]; simp
      rw [this]
      exact Nat.le_trans ih (Nat.pow_le_pow_right (by decide) (by omega))
    | some c =>
      rw [blAt_succ e, Nat.mul_add, Nat.mul_one, Nat.pow_add]
      exact Nat.mul_le_mul ih (abN_bits hw (hc c (List.mem_of_getElem? e)))
theorem mulOk {a b : Nat} (ha : a ≤ 2 ^ 4000) (hb : b ≤ 2 ^ 4000) : IntMulOk (a : Int) (b : Int) := by
  unfold IntMulOk
  have h1 : bitL a ≤ 4001 := bitL_le (Nat.lt_of_le_of_lt ha (Nat.pow_lt_pow_right (by decide) (by decide)))
  have h2 : bitL b ≤ 4001 := bitL_le (Nat.lt_of_le_of_lt hb (Nat.pow_lt_pow_right (by decide) (by decide)))
  rw [intBits_nat, intBits_nat]
  have h3 : Builtin.Int.intTooBig ((bitL a : Nat) + (bitL b : Nat) : Int) = false := by
    unfold Builtin.Int.intTooBig
    refine decide_eq_false ?_
    have : (8002 : Int) ≤ bitsLine := by decide +kernel
    omega
  rw [h3]; simp
theorem powOk {width i : Nat} (hw : width ≤ 13) (hi : i ≤ 6) : ¬ Builtin.Int.intTooBig (((Builtin.Int.intBits ((2 ^ width : Nat) : Int) : Nat) : Int) * (i : Int)) = true := by
  rw [intBits_nat]
  have h1 : bitL (2 ^ width) ≤ 14 := bitL_le (Nat.pow_lt_pow_right (by decide) (by omega))
  have h2 : bitL (2 ^ width) * i ≤ 14 * 6 := Nat.mul_le_mul h1 hi
  unfold Builtin.Int.intTooBig
  have : (84 : Int) ≤ bitsLine := by decide +kernel
  simp only [decide_eq_true_eq]
  rw [← Int.natCast_mul]
  omega
noncomputable abbrev rhoC (size sends width home : Nat) (kd word : Str) (cs : List Int) (rings : List (List Str)) : List (Str × D) := [("base", .int ((2 ^ width : Nat) : Int)), ("home", .int (home : Int)), ("rings", .lst (rings.map strL)), ("word", .str word), ("kinds", .str kd), ("width", .int (width : Int)), ("sends", .int (sends : Int)), ("size", .int (size : Int)), ("cells", .lst (cs.map .int))]
structure HomeOk (size sends home : Nat) : Prop where
  pos : 1 ≤ home
  le : home ≤ size
  hit : home * sends % size = 0
  least : ∀ t, 1 ≤ t → t * sends % size = 0 → home ≤ t
structure CntOk (kd word : Str) : Prop where
  asc : kd.cps.all (· < 128) = true
  few : kd.cps.size ≤ 3
  cnt : ∀ c ∈ cntsOf kd word, c ≤ 6
section
variable {w : World} {B₀ : Heap} {A : Around} {MU md : List Addr} {s₀ s : Shared} {E : Value → Shared → Prop} {mg mb : Str → Option Value} {pm cd doc dV kV : Value} {L fa : Addr} {Q : Flow → Shared → Prop}
theorem law_c (B : Base B₀ mg mb) (N : LawN mg mb) {size sends width home : Nat} {kd word : Str} {cs : List Int} {rings : List (List Str)} (hs6 : size ≤ 6) (hsd : sends ≤ 4) (hw : 6 ≤ width ∧ width ≤ 13) (H : HomeOk size sends home) (C : CntOk kd word)
    (hA : A.handled = none) (S : St B₀ s₀ md (callEnvC (fdLaw pm cd doc dV kV) L fa) MU (("rings", .lst (rings.map strL)) :: rhoB size sends width kd word cs) [] s)
    (h : ∀ s', St B₀ s₀ md (callEnvC (fdLaw pm cd doc dV kV) L fa) MU (("below", .int (blAt (2 ^ width) (cntsOf kd word) (cntsOf kd word).length : Int)) :: ("above", .int (abN (2 ^ width) size : Int)) :: rhoC size sends width home kd word cs rings) [] s' → wpAny (model theProg w) A (execs ((bodyOf (topStmt 26)).drop 19) (callEnvC (fdLaw pm cd doc dV kV) L fa)) Q E s') :
    wpAny (model theProg w) A (execs ((bodyOf (topStmt 26)).drop 13) (callEnvC (fdLaw pm cd doc dV kV) L fa)) Q E s := by
  have hp := H.pos
  have hl := H.le
  show wpAny _ _ (execs (_ :: _) _) _ _ _
  let hp' : Int → Bool := fun t => (t * (sends : Int)).fmod (size : Int) == 0
  let ns : List Int := ((List.range size).map fun (i : Nat) => 1 + (i : Int)).filter hp'
  have hpat : ∀ t : Nat, hp' (t : Int) = decide (t * sends % size = 0) := fun t => by
    show (((t : Int) * (sends : Int)).fmod (size : Int) == 0) = _
    rw [Int.fmod_eq_emod_of_nonneg _ (Int.natCast_nonneg _), ← Int.natCast_mul, ← Int.natCast_emod]
    by_cases q : t * sends % size = 0
    · rw [decide_eq_true q, q]; rfl
    · rw [decide_eq_false q]; exact beq_eq_false_iff_ne.mpr fun e => q (by exact_mod_cast e)
  refine wpAny_execs_cons (s_assign (d := .int (home : Int)) S (Ev.minL B hA N.mn (ns := ns) (Ev.cast (Ev.comp1 (cl := [("size", L + 2), ("sends", L + 3)]) (ρf := [("size", .int (size : Int)), ("sends", .int (sends : Int))]) (p := fun d => match d with | .int t => hp' t | _ => false) (f := fun d => d) (bs := fun d => [("t", d)]) hA
      ⟨fun x => rfl, rfl, (fun y c e => cl_cons rfl (cl_one rfl) e), rfl, by decide +kernel⟩ (It.range2 (a := 1) (b := (size : Int) + 1) B hA N.n.range Ev.cInt (Ev.add (Ev.name rfl) Ev.cInt) (by decide) (by decide) (by omega) (by omega) (sz (by omega))) ⟨⟨rfl, rfl, rfl, rfl, rfl⟩, ⟨rfl, rfl, rfl, rfl, rfl⟩, trivial⟩
      (fun C d _ => ⟨[C], AsT.name (.inl ⟨rfl, rfl⟩), by simp⟩) (fun d => lk_skip rfl (lk_refl _)) (fun C MU d hd => ?_) (fun C MU d hd _ => Ev.name rfl)) ?_) ?_ ?_) (.inr ⟨rfl, rfl⟩) fun s₂ S₂ => ?_)
  · obtain ⟨k, hk, rfl⟩ := List.mem_map.mp hd
    have hk6 : k < size := by simpa using hk
    exact Tss.one (Ts.eq (Ev.mod (Ev.mul (Ev.name rfl) (Ev.name rfl) (IntMulOk.of_right (by rw [intBits_nat]; exact bitL_le (Nat.lt_of_le_of_lt hsd (by decide))))) (Ev.name rfl) (by omega)) Ev.cInt)
  · congr 1
    show _ = List.map D.int (List.filter hp' _)
    rw [rng, List.map_id', List.filter_map, List.filter_map, List.map_map]
    have : ((size : Int) + 1 - 1).toNat = size := by omega
    rw [this]
    rfl
  · refine List.mem_filter.mpr ⟨List.mem_map.mpr ⟨home - 1, List.mem_range.mpr (by omega), by omega⟩, ?_⟩
    rw [hpat]; exact decide_eq_true H.hit
  · intro x hx
    obtain ⟨h1, h2⟩ := List.mem_filter.mp hx
    obtain ⟨k, _, rfl⟩ := List.mem_map.mp h1
    have : (1 : Int) + (k : Int) = ((k + 1 : Nat) : Int) := by omega
    rw [this] at h2 ⊢
    rw [hpat] at h2
    have := H.least (k + 1) (by omega) (of_decide_eq_true h2)
    omega
  have b2 : 2 ≤ 2 ^ width := Nat.le_trans (by decide : 2 ≤ 2 ^ 1) (Nat.pow_le_pow_right (by decide) (by omega))
  show wpAny _ _ (execs (_ :: _) _) _ _ _
  refine wpAny_execs_cons (s_assign (d := .int ((2 ^ width : Nat) : Int)) S₂ (Ev.cast (Ev.pow Ev.cInt (Ev.name rfl) (by omega) (by decide) ?_) ?_) (.inl ⟨rfl, rfl⟩) fun s₃ S₃ => ?_)
  · have : Builtin.Int.intBits 2 = 2 := by decide +kernel
    rw [this]
    unfold Builtin.Int.intTooBig
    have : (84 : Int) ≤ bitsLine := by decide +kernel
    simp only [decide_eq_true_eq]
    omega
  · rw [Int.toNat_natCast]; congr 1
  show wpAny _ _ (execs (_ :: _) _) _ _ _
  refine wpAny_execs_cons (s_assign (d := .int ((1 : Nat) : Int)) S₃ Ev.cInt (.inl ⟨rfl, rfl⟩) fun s₄ S₄ => ?_)
  have hpw : ∀ j : Nat, j < 6 → ((2 ^ width : Nat) : Int) ^ ((1 : Int) + (j : Int)).toNat - 1 = (((2 ^ width) ^ (j + 1) - 1 : Nat) : Int) := fun j _ => by
    have e : ((1 : Int) + (j : Int)).toNat = j + 1 := by omega
    have g : 1 ≤ (2 ^ width) ^ (j + 1) := by rw [← Nat.pow_mul]; exact Nat.two_pow_pos _
    rw [e, Int.natCast_sub g, Int.natCast_pow (2 ^ width) (j + 1)]; rfl
  have hpb : ∀ j : Nat, j < 6 → (2 ^ width) ^ (j + 1) - 1 ≤ 2 ^ 4000 := fun j hj => by
    refine Nat.le_trans (Nat.sub_le _ _) ?_
    rw [← Nat.pow_mul]
    refine Nat.pow_le_pow_right (by decide) ?_
    have : width * (j + 1) ≤ 13 * 6 := Nat.mul_le_mul hw.2 (by omega)
    omega
  show wpAny _ _ (execs (_ :: _) _) _ _ _
  refine wpAny_execs_cons (s_for0 (ds := rng 1 ((size : Int) + 1)) (fun i => ("above", .int (abN (2 ^ width) i : Int)) :: rhoC size sends width home kd word cs rings) (fun i => []) S₄ (It.range2 B hA N.n.range Ev.cInt (Ev.add (Ev.name rfl) Ev.cInt) (by decide) (by decide) (by omega) (by omega) (sz (by omega))) (lk_refl _) rfl (fun i => rfl) (fun j d MU' s₀' md' s₅ E v ed hM S₅ rv => ?_) fun s₅ S₅ => ?_)
  · have hj : j < size := by
      have := (List.getElem?_eq_some_iff.mp ed).1
      rw [rng_len] at this; omega
    have ed' : d = .int (1 + (j : Int)) := by
      have hj' : j < ((size : Int) + 1 - 1).toNat := by omega
      simp only [rng, List.getElem?_map, List.getElem?_range hj', Option.map_some] at ed
      exact (Option.some.inj ed).symm
    subst ed'
    refine S₅.assign (.inl ⟨rfl, rfl⟩) rv fun s₆ S₆ => ?_
    show wpAny _ _ (execs (_ :: _) _) _ _ _
    refine wpAny_execs_cons (s_assign (d := .int (abN (2 ^ width) (j + 1) : Int)) S₆ (Ev.cast (Ev.mul (Ev.name rfl) (Ev.cast (Ev.sub (Ev.pow (Ev.name rfl) (Ev.name rfl) (by omega) (by omega) ?_) Ev.cInt) (by rw [hpw j (by omega)])) (mulOk ?_ (hpb j (by omega)))) ?_) (.inl ⟨rfl, rfl⟩) fun s₇ S₇ => ?_)
    · have := powOk (width := width) (i := j + 1) hw.2 (by omega)
      rw [show (1 : Int) + (j : Int) = ((j + 1 : Nat) : Int) by omega]
      exact this
    · exact Nat.le_trans (abN_bits hw.2 (by omega)) (Nat.pow_le_pow_right (by decide) (by decide))
    · rw [← Int.natCast_mul]; rfl
    · exact wpAny_execs_nil ⟨rfl, S₇.weak (lk_cons (lk_skip rfl (lk_skip rfl (lk_refl _))))⟩
  rw [rng_len, show ((size : Int) + 1 - 1).toNat = size by omega] at S₅
  show wpAny _ _ (execs (_ :: _) _) _ _ _
  refine wpAny_execs_cons (s_assign (d := .int ((1 : Nat) : Int)) S₅ Ev.cInt (.inl ⟨rfl, rfl⟩) fun s₆ S₆ => ?_)
  have few := C.few
  have hcl : (cntsOf kd word).length = kd.cps.size := by simp [cntsOf]
  have hbb := blAt_bits (cnts := cntsOf kd word) hw.2 C.cnt
  show wpAny _ _ (execs (_ :: _) _) _ _ _
  refine wpAny_execs_cons (s_for0 (ds := kd.cps.toList.map fun c => D.str ⟨#[c]⟩) (fun i => ("below", .int (blAt (2 ^ width) (cntsOf kd word) i : Int)) :: ("above", .int (abN (2 ^ width) size : Int)) :: rhoC size sends width home kd word cs rings) (fun i => []) S₆ (It.strA hA (Ev.name rfl) C.asc (sz (by omega))) (lk_refl _) rfl (fun i => rfl) (fun i d MU' s₀' md' s₇ E v ed hM S₇ rv => ?_) fun s₇ S₇ => ?_)
  · obtain ⟨c, ec, rfl⟩ : ∃ c, kd.cps.toList[i]? = some c ∧ d = D.str ⟨#[c]⟩ := by
      rw [List.getElem?_map] at ed
      cases q : kd.cps.toList[i]? with
      | none => rw [q] at ed; cases ed
      | some c => rw [q] at ed; cases ed; exact ⟨c, rfl, rfl⟩
    have hi : i < kd.cps.size := by have := (List.getElem?_eq_some_iff.mp ec).1; simpa using this
    have ecn : (cntsOf kd word)[i]? = some (Txt.count word ⟨#[c]⟩).toNat := by unfold cntsOf; rw [List.getElem?_map, ec]; rfl
    have c6 := C.cnt _ (List.mem_of_getElem? ecn)
    have hcn := count_nat word ⟨#[c]⟩
    generalize hn : (Txt.count word ⟨#[c]⟩).toNat = n at *
    refine S₇.assign (.inl ⟨rfl, rfl⟩) rv fun s₈ S₈ => ?_
    show wpAny _ _ (execs (_ :: _) _) _ _ _
    refine wpAny_execs_cons (s_for0 (ds := rng 1 ((n : Int) + 1)) (fun j => ("below", .int (blAt (2 ^ width) (cntsOf kd word) i * abN (2 ^ width) j : Nat)) :: ("above", .int (abN (2 ^ width) size : Int)) :: rhoC size sends width home kd word cs rings) (fun i => []) S₈ (It.range2 B hA N.n.range Ev.cInt (Ev.add (Ev.cast (Ev.count (Ev.name rfl) (Ev.name rfl)) (by rw [hcn])) Ev.cInt) (by decide) (by decide) (by omega) (by omega) (sz (by omega))) (fun x d e => ?_) rfl (fun i => rfl) (fun j d MU'' s₀'' md'' s₉ E v ed hM'' S₉ rv => ?_) fun s₉ S₉ => ?_)
    · have e' : ((("below" : Str), D.int (blAt (2 ^ width) (cntsOf kd word) i * abN (2 ^ width) 0 : Nat)) :: ("above", .int (abN (2 ^ width) size : Int)) :: rhoC size sends width home kd word cs rings).lookup x = some d := e
      rw [show abN (2 ^ width) 0 = 1 from rfl, Nat.mul_one] at e'
      exact lk_skip rfl (lk_refl _) x d e'
    · have hj : j < n := by
        have := (List.getElem?_eq_some_iff.mp ed).1
        rw [rng_len] at this; omega
      have ed' : d = .int (1 + (j : Int)) := by
        have hj' : j < ((n : Int) + 1 - 1).toNat := by omega
        simp only [rng, List.getElem?_map, List.getElem?_range hj', Option.map_some] at ed
        exact (Option.some.inj ed).symm
      subst ed'
      have hb1 : blAt (2 ^ width) (cntsOf kd word) i * abN (2 ^ width) j ≤ 2 ^ 4000 := by
        refine Nat.le_trans (Nat.mul_le_mul (hbb i) (abN_bits (n := j) hw.2 (by omega))) ?_
        rw [← Nat.pow_add]
        exact Nat.pow_le_pow_right (by decide) (by omega)
      refine S₉.assign (.inl ⟨rfl, rfl⟩) rv fun s₁₀ S₁₀ => ?_
      show wpAny _ _ (execs (_ :: _) _) _ _ _
      refine wpAny_execs_cons (s_assign (d := .int (blAt (2 ^ width) (cntsOf kd word) i * abN (2 ^ width) (j + 1) : Nat)) S₁₀ (Ev.cast (Ev.mul (Ev.name rfl) (Ev.cast (Ev.sub (Ev.pow (Ev.name rfl) (Ev.name rfl) (by omega) (by omega) ?_) Ev.cInt) (by rw [hpw j (by omega)])) (mulOk hb1 (hpb j (by omega)))) ?_) (.inl ⟨rfl, rfl⟩) fun s₁₁ S₁₁ => ?_)
      · have := powOk (width := width) (i := j + 1) hw.2 (by omega)
        rw [show (1 : Int) + (j : Int) = ((j + 1 : Nat) : Int) by omega]
        exact this
      · rw [← Int.natCast_mul, Nat.mul_assoc]; rfl
      · exact wpAny_execs_nil ⟨rfl, S₁₁.weak (lk_cons (lk_skip rfl (lk_skip rfl (lk_refl _))))⟩
    · rw [rng_len, show ((n : Int) + 1 - 1).toNat = n by omega] at S₉
      refine wpAny_execs_nil ⟨rfl, ?_⟩
      have := S₉.weak (ρ' := ("below", .int (blAt (2 ^ width) (cntsOf kd word) i * abN (2 ^ width) n : Nat)) :: ("above", .int (abN (2 ^ width) size : Int)) :: rhoC size sends width home kd word cs rings) (lk_refl _)
      rw [← blAt_succ ecn] at this
      exact this
  · rw [List.length_map, Array.length_toList, ← hcl] at S₇
    exact h s₇ S₇
end
end Mine
end
end
section
set_option Elab.async false
noncomputable section
open PySem PySem.W PySem.Calls PyProof.Rows
set_option maxRecDepth 100000
set_option linter.unusedVariables false
set_option maxHeartbeats 1000000
set_option exponentiation.threshold 10
namespace Mine
noncomputable def toldL (home : Nat) (rings : List (List Str)) : List Nat := (List.range home).map fun j => (rings.filter fun r => j % (home / r.length) == 0).length
structure NumOk (width home ab bl : Nat) (rings : List (List Str)) (ld : Int) (fo : Nat) : Prop where
  abl : ab < 2 ^ 500
  blp : 0 < bl
  bll : bl < 2 ^ 500
  over : (-(ab : Int)).fmod (bl : Int) = 0
  lead : (-(ab : Int)).fdiv (bl : Int) = ld
  ldl : ld.natAbs < 2 ^ 500
  fold : -(ld.fmod (1 - (((2 ^ width) ^ home : Nat) : Int))) = (fo : Int)
  fol : fo < 2 ^ 400
  fig : ((digs width fo) ++ List.replicate home 0).take home = toldL home rings
section
variable {w : World} {B₀ : Heap} {A : Around} {MU md : List Addr} {s₀ s : Shared} {E : Value → Shared → Prop} {mg mb : Str → Option Value} {pm cd doc dV kV : Value} {L fa : Addr} {Q : Flow → Shared → Prop}
theorem law_d (B : Base B₀ mg mb) (N : LawN mg mb) (I : IntF B₀ mg mb) {size sends width home ab bl fo : Nat} {kd word : Str} {cs : List Int} {rings : List (List Str)} {ld : Int} (hw : 6 ≤ width ∧ width ≤ 13) (hh : 1 ≤ home ∧ home ≤ 6) (hrl : rings.length ≤ 100) (hr : ∀ r ∈ rings, 0 < r.length ∧ r.length ≤ home) (O : NumOk width home ab bl rings ld fo)
    (hA : A.handled = none) (hd : A.depth + 680 < recursionLimit) (hu : A.units + 100 < cLine) (hbM : ∀ b ∈ MU, B₀.get? b = none)
    (S : St B₀ s₀ md (callEnvC (fdLaw pm cd doc dV kV) L fa) MU (("below", .int (bl : Int)) :: ("above", .int (ab : Int)) :: rhoC size sends width home kd word cs rings) [] s)
    (h : ∀ B₁ s' ρ', IntF B₁ mg mb → (∀ b ∈ MU, B₁.get? b = none) → St B₁ s₀ (TT ++ (TT ++ (TT ++ md))) (callEnvC (fdLaw pm cd doc dV kV) L fa) MU ρ' [] s' → Q (.ret (.bool true)) s') :
    wpAny (model theProg w) A (execs ((bodyOf (topStmt 26)).drop 19) (callEnvC (fdLaw pm cd doc dV kV) L fa)) Q E s := by
  have blp := O.blp
  have b2 : 2 ≤ 2 ^ width := Nat.le_trans (by decide : 2 ≤ 2 ^ 1) (Nat.pow_le_pow_right (by decide) (by omega))
  have hp2 : 2 ≤ (2 ^ width) ^ home := by
    rw [← Nat.pow_mul]
    refine Nat.le_trans (by decide : 2 ≤ 2 ^ 1) (Nat.pow_le_pow_right (by decide) ?_)
    have : 6 * 1 ≤ width * home := Nat.mul_le_mul hw.1 hh.1
    omega
  have hpl : (2 ^ width) ^ home ≤ 2 ^ 78 := by
    rw [← Nat.pow_mul]
    refine Nat.pow_le_pow_right (by decide) ?_
    have : width * home ≤ 13 * 6 := Nat.mul_le_mul hw.2 hh.2
    omega
  have hbig : 2 ^ 78 < 2 ^ 500 := Nat.pow_lt_pow_right (by decide) (by decide)
  show wpAny _ _ (execs (_ :: _) _) _ _ _
  refine wpAny_execs_cons (s_pairT (d := .int ld) (d' := .int 0) (ds := [.int (-(ab : Int)), .int (bl : Int)]) B I S hbM hA I.g5 I.d5.fn (.cons (Ev.neg (Ev.name rfl)) rfl (.cons (Ev.name rfl) rfl .nil)) (.inl ⟨rfl, rfl⟩) (.inl ⟨rfl, rfl⟩) (fun vs s' E ru g' low' => ?_) fun B₁ s₂ k1 B1 I1 hb1 S₂ => ?_)
  · have := idm_ok (w := w) (A := A) (E := E) B N.n I (a := -(ab : Int)) (b := (bl : Int)) (by omega) (by simpa using O.bll) (by simpa using O.abl) hA (by omega) g' low' hbM ru
    unfold dmD at this
    rw [O.over, O.lead] at this
    exact this
  show wpAny _ _ (execs (_ :: _) _) _ _ _
  refine wpAny_execs_cons (s_negT (q := ld.fdiv (1 - (((2 ^ width) ^ home : Nat) : Int))) (r := ld.fmod (1 - (((2 ^ width) ^ home : Nat) : Int))) (ds := [.int ld, .int (1 - (((2 ^ width) ^ home : Nat) : Int))]) B1 I1 S₂ hb1 I1.g5 I1.d5.fn (.cons (Ev.name rfl) rfl (.cons (Ev.cast (Ev.sub Ev.cInt (Ev.pow (Ev.name rfl) (Ev.name rfl) (by omega) (by omega) (powOk hw.2 hh.2))) ?_) rfl .nil)) (.inl ⟨rfl, rfl⟩) (fun vs s' E ru g' low' => ?_) fun B₂ s₃ k2 B2 I2 hb2 S₃ => ?_)
  · rw [Int.toNat_natCast, Int.natCast_pow (2 ^ width) home]
  · exact idm_ok (w := w) (A := A) (E := E) B1 N.n I1 (by omega) (by omega) O.ldl hA (by omega) g' low' hb1 ru
  rw [O.fold] at S₃
  have hfo : fo < 2 ^ 500 := Nat.lt_trans O.fol (Nat.pow_lt_pow_right (by decide) (by decide))
  have hnd : ndig width fo ≤ 400 := Nat.le_trans (ndig_le (by omega) fo) (bitL_le O.fol)
  show wpAny _ _ (execs (_ :: _) _) _ _ _
  refine wpAny_execs_cons (s_figT (as := (digs width fo).map fun (d : Nat) => D.int (d : Int)) (bs := List.replicate home (.int 0)) (n := home) (ds := [.int (fo : Int), .int (width : Int)]) B2 I2 S₃ hb2 I2.g2 I2.d2.fn (.cons (Ev.name rfl) rfl (.cons (Ev.name rfl) rfl .nil)) (.inl ⟨rfl, rfl⟩) (fun vs s' E ru g' low' => i2dT B2 N.n I2 (by omega) (by omega) (by omega) hA (by omega) g' low' hb2 ru)
    (fun B₁ => EvN.ev (EvN.cast (EvN.lmul (k := (home : Int)) (Ev.list (.cons Ev.cInt rfl .nil) (sz (by simp))) (Ev.name rfl) (by omega) (by omega)) (by rw [Int.toNat_natCast]))) (fun B₁ => Ev.name rfl) (by simp [digs]; omega) fun B₃ s₄ k3 B3 I3 hb3 S₄ => ?_)
  have efig : ((digs width fo).map (fun (d : Nat) => D.int (d : Int)) ++ List.replicate home (D.int 0)).take home = (toldL home rings).map fun (d : Nat) => D.int (d : Int) := by
    rw [← O.fig, List.map_take, List.map_append, List.map_replicate]; rfl
  rw [efig] at S₄
  show wpAny _ _ (execs (_ :: _) _) _ _ _
  let tj : Nat → Nat := fun j => (rings.filter fun r => j % (home / r.length) == 0).length
  refine wpAny_execs_cons (s_comp (cl := [("rings", L + 5), ("home", L + 6)]) (ds := rng 0 home) (ρf := [("rings", .lst (rings.map strL)), ("home", .int (home : Int))]) (p := fun _ => true) (f := fun d => match d with | .int j => .int (tj j.toNat : Int) | _ => .none) (bs := fun d => [("j", d)]) S₄ hA (.inl ⟨rfl, rfl⟩) rfl
    ⟨fun x => rfl, rfl, (fun y c e => cl_cons rfl (cl_one rfl) e), rfl, by decide +kernel⟩ (It.range1 (b := (home : Int)) B3 hA N.n.range (Ev.name rfl) (by omega) (by omega) (sz (by omega))) ⟨⟨rfl, rfl, rfl, rfl, rfl⟩, ⟨rfl, rfl, rfl, rfl, rfl⟩, trivial⟩
    (fun C d _ => ⟨[C + 1], AsT.name (.inr ⟨rfl, rfl⟩), fun b hb => .inr (by rw [List.mem_singleton] at hb; subst hb; exact .head _)⟩) (fun d => lk_skip rfl (lk_refl _)) (fun C MU d hd => Tss.nil) (fun C MU' d hd _ => ?_) fun s₅ S₅ => ?_)
  · obtain ⟨j, hj, rfl⟩ := List.mem_map.mp hd
    have hj6 : j < home := by simpa using hj
    simp only [Int.zero_add, Int.toNat_natCast]
    refine Ev.cast (Ev.lenL (ds := (rings.filter fun r => j % (home / r.length) == 0).map strL) B3 (Ev.cast (Ev.comp1 (cl := [("j", C + 1), ("home", L + 6)]) (ρf := [("j", .int (j : Int)), ("home", .int (home : Int))]) (ds := rings.map strL) (p := fun d => match d with | .lst l => j % (home / l.length) == 0 | _ => false) (f := fun d => d) (bs := fun d => [("ring", d)]) hA
      ⟨fun x => rfl, rfl, (fun y c e => cl_cons rfl (cl_one rfl) e), rfl, by decide +kernel⟩ (It.list (ds := rings.map strL) hA (Ev.name rfl) (sz (by simp; omega))) ⟨⟨rfl, rfl, rfl, rfl, rfl⟩, ⟨rfl, rfl, rfl, rfl, rfl⟩, trivial⟩
      (fun C d _ => ⟨[C], AsT.name (.inl ⟨rfl, rfl⟩), by simp⟩) (fun d => lk_skip rfl (lk_refl _)) (fun C MU d hd => ?_) (fun C MU d hd _ => Ev.name rfl)) ?_) ?_ N.n.len) ?_
    · obtain ⟨r, hrm, rfl⟩ := List.mem_map.mp hd
      obtain ⟨r0, r1⟩ := hr r hrm
      have hq : 0 < home / r.length := Nat.div_pos r1 r0
      have e : (((j : Int)).fmod ((home / r.length : Nat) : Int) == 0) = (j % (home / r.length) == 0) := by
        rw [(idm_nat j (home / r.length)).2]
        by_cases q : j % (home / r.length) = 0
        · rw [q]; rfl
        · rw [beq_eq_false_iff_ne.mpr q]; exact beq_eq_false_iff_ne.mpr fun e => q (by exact_mod_cast e)
      show Tss _ _ _ _ _ _ _ _ (j % (home / (r.map D.str).length) == 0)
      rw [List.length_map, ← e]
      exact Tss.one (Ts.eq (Ev.mod (Ev.name rfl) (Ev.cast (Ev.div (Ev.name rfl) (Ev.cast (d' := .int (r.length : Int)) (Ev.lenL (ds := r.map .str) B3 (Ev.name rfl) (by rw [List.length_map]; omega) N.n.len) (by rw [List.length_map])) (by omega) (noPy (Nat.lt_of_lt_of_le (by simp; omega : ((r.length : Int)).natAbs < 2 ^ 3) (Nat.pow_le_pow_right (by decide) (by decide))))) (by rw [(idm_nat home r.length).1])) (by omega)) Ev.cInt)
    · congr 1
      rw [List.map_id', List.filter_map]
      congr 1
      refine List.filter_congr fun r _ => ?_
      show (j % (home / (r.map D.str).length) == 0) = _
      rw [List.length_map]
    · have := List.length_filter_le (fun r : List Str => j % (home / r.length) == 0) rings
      rw [List.length_map]; omega
    · rw [List.length_map]
  · have et : D.lst (((rng 0 home).filter fun _ => true).map fun d => match d with | .int j => .int (tj j.toNat : Int) | _ => .none) = .lst ((toldL home rings).map fun (d : Nat) => D.int (d : Int)) := by
      congr 1
      unfold toldL
      rw [filt_true, rng, List.map_map, List.map_map]
      simp [tj]
    rw [et] at S₅
    show wpAny _ _ (execs (_ :: _) _) _ _ _
    refine wpAny_execs_cons (s_return (d := .bool true) S₅ (Ev.and2 (Ev.cast (Ev.eq (Ev.name rfl) Ev.cInt) rfl) (Ev.eqL (ds := (toldL home rings).map fun (d : Nat) => D.int (d : Int)) (Ev.name rfl) (Ev.name rfl) (by omega) fun s d v u hd r1 r2 => ?_)) fun v s₆ rv S₆ => ?_)
    · obtain ⟨n, _, rfl⟩ := List.mem_map.mp hd
      exact eqAt_int r1 r2
    · (first | obtain ⟨_, rfl⟩ := rp_int rv | obtain ⟨_, rfl⟩ := rp_str rv | obtain rfl := rp_raw rv | obtain rfl := rps_nil rv | cases rv)
      exact h B₃ s₆ _ I3 hb3 S₆
end
end Mine
end
end
section
set_option Elab.async false
noncomputable section
open PySem PySem.W PySem.Calls PyProof.Rows
set_option maxRecDepth 100000
set_option linter.unusedVariables false
set_option maxHeartbeats 1000000
namespace Mine
noncomputable def ofL (l : List Nat) : Str := ⟨l.toArray⟩
theorem ofL_cps (l : List Nat) : (ofL l).cps.toList = l := rfl
theorem ofL_of (x : Str) : ofL x.cps.toList = x := rfl
theorem ofL_len (l : List Nat) : (ofL l).length = l.length := by simp [ofL, Str.length]
theorem ofL_app (a b : List Nat) : ofL a ++ ofL b = ofL (a ++ b) := Str.ext' (by rw [Str.cps_append]; simp [ofL])
theorem ofL_inj {a b : List Nat} (h : ofL a = ofL b) : a = b := by
  have := congrArg (fun x : Str => x.cps.toList) h
  exact this
theorem ofL_beq (a b : List Nat) : (ofL a == ofL b) = (a == b) := by
  by_cases h : a = b
  · subst h; simp
  · rw [beq_eq_false_iff_ne.mpr h]; exact beq_eq_false_iff_ne.mpr fun e => h (ofL_inj e)
theorem cnt_list (c : Nat) : ∀ l : List Nat, PyProof.Rows.cnt c l = (l.count c : Int)
  | [] => rfl
  | n :: r => by
    rw [cnt_cons, cnt_list c r, List.count_cons]
    by_cases h : n = c
    · subst h; simp; omega
    · simp [h]
theorem count_ofL (l : List Nat) (c : Nat) : Txt.count (ofL l) ⟨#[c]⟩ = (l.count c : Int) := by
  rw [count_is]; exact cnt_list c l
theorem cont_ofL (l : List Nat) (c : Nat) : Txt.contains (ofL l) ⟨#[c]⟩ = decide (c ∈ l) := StrLaws.found_one (ofL l) c
theorem join0 (ls : List (List Nat)) : Txt.join ("" : Str) (ls.map ofL) = ofL ls.flatten := by
  have h := join_flat (ls.map ofL)
  have e : ((ls.map ofL).flatMap fun x => x.cps.toList) = ls.flatten := by
    rw [List.flatMap_map]
    show ls.flatMap (fun x => x) = _
    induction ls with
    | nil => rfl
    | cons a r ih => rw [List.flatMap_cons, List.flatten_cons]; rw [ih (join_flat _)]
  rw [e] at h
  have : Txt.join ("" : Str) (ls.map ofL) = ofL (Txt.join ⟨#[]⟩ (ls.map ofL)).cps.toList := rfl
  rw [this, h]
theorem join_cons (s a : List Nat) (b : List Nat) (r : List (List Nat)) : Txt.join (ofL s) ((a :: b :: r).map ofL) = ofL (a ++ s) ++ Txt.join (ofL s) ((b :: r).map ofL) := by
  unfold Txt.join
  rw [StrLaws.glued_eq_join, StrLaws.glued_eq_join]
  show ofL a ++ ofL s ++ _ = _
  rw [ofL_app]
/-- rows with s between -/
noncomputable def jn (s : List Nat) : List (List Nat) → List Nat
  | [] => []
  | [a] => a
  | a :: b :: r => a ++ s ++ jn s (b :: r)
theorem join_ofL (s : List Nat) : ∀ rows : List (List Nat), Txt.join (ofL s) (rows.map ofL) = ofL (jn s rows)
  | [] => rfl
  | [a] => by unfold Txt.join; rw [StrLaws.glued_eq_join]; rfl
  | a :: b :: r => by rw [join_cons, join_ofL s (b :: r), ofL_app]; rfl
theorem slice_from {l : List Nat} {n : Nat} (h : n ≤ l.length) : Txt.slice (ofL l) (some (n : Int)) none = ofL (l.drop n) := by
  have := StrLaws.sliceText_from (x := ofL l) (i := (n : Int)) ⟨by omega, by rw [ofL_cps]; omega⟩
  show StrLaws.sliceText (ofL l) (some (n : Int)) none = _
  rw [this, ofL_cps, Int.toNat_natCast]
  show ofL _ = _
  rw [List.take_of_length_le (by rw [List.length_drop]; omega)]
theorem slice_to {l : List Nat} {n : Nat} (h : n ≤ l.length) : Txt.slice (ofL l) none (some (n : Int)) = ofL (l.take n) := by
  have := StrLaws.sliceText_to (x := ofL l) (j := (n : Int)) ⟨by omega, by rw [ofL_cps]; omega⟩
  show StrLaws.sliceText (ofL l) none (some (n : Int)) = _
  rw [this, ofL_cps]
  show ofL _ = _
  congr 2
theorem slice_one {l : List Nat} {j : Nat} (h : j < l.length) : Txt.slice (ofL l) (some (j : Int)) (some ((j : Int) + 1)) = ofL [l[j]] := by
  have := StrLaws.sliceText_plain (x := ofL l) (i := (j : Int)) (j := (j : Int) + 1) ⟨by omega, by omega, by rw [ofL_cps]; omega⟩
  show StrLaws.sliceText (ofL l) (some (j : Int)) (some ((j : Int) + 1)) = _
  rw [this, ofL_cps, Int.toNat_natCast, show ((j : Int) + 1 - (j : Int)).toNat = 1 by omega]
  show ofL _ = _
  congr 1
  rw [List.drop_eq_getElem_cons h]
  rfl
theorem item_ofL {l : List Nat} {k : Nat} (h : k < l.length) : Txt.item (ofL l) (k : Int) = ofL [l[k]] := by
  unfold Txt.item Txt.charAt
  rw [StrLaws.seqIndex_nonneg (by omega) (by rw [ofL_len]; omega), Int.toNat_natCast]
  show (⟨#[(((ofL l).cps[k]?)).getD 0]⟩ : Str) = _
  have : (ofL l).cps[k]? = some l[k] := by simp [ofL, h]
  rw [this]; rfl
/-- turned by n -/
noncomputable def rotL (n : Nat) (l : List Nat) : List Nat := l.drop (l.length - n) ++ l.take (l.length - n)
theorem rotS_ofL {n : Nat} {l : List Nat} (h : n ≤ l.length) : rotS (n : Int) (ofL l) = ofL (rotL n l) := by
  unfold rotS rotL
  have e : (((ofL l).length : Nat) : Int) - (n : Int) = ((l.length - n : Nat) : Int) := by rw [ofL_len]; omega
  rw [e, slice_from (by omega), slice_to (by omega), ofL_app]
theorem rotL_len {n : Nat} {l : List Nat} : (rotL n l).length = l.length := by
  unfold rotL; rw [List.length_append, List.length_drop, List.length_take]; omega
theorem rotL_get {n : Nat} {l : List Nat} (hn : n ≤ l.length) {m : Nat} (hm : m < l.length) : (rotL n l)[m]? = l[(m + (l.length - n)) % l.length]? := by
  unfold rotL
  rcases Nat.lt_or_ge m n with h | h
  · rw [List.getElem?_append_left (by rw [List.length_drop]; omega), List.getElem?_drop]
    congr 1
    rw [Nat.mod_eq_of_lt (by omega)]; omega
  · rw [List.getElem?_append_right (by rw [List.length_drop]; omega), List.length_drop, List.getElem?_take]
    have e : (m + (l.length - n)) % l.length = m - n := by
      have : m + (l.length - n) = (m - n) + l.length := by omega
      rw [this, Nat.add_mod_right, Nat.mod_eq_of_lt (by omega)]
    rw [e]
    have : m - (l.length - (l.length - n)) = m - n := by omega
    rw [this, if_pos (by omega)]
end Mine
end
end
section
set_option Elab.async false
noncomputable section
open PySem PySem.W PySem.Calls PyProof.Rows PySem.Builtin PySem.Builtin.Str
set_option maxRecDepth 100000
set_option linter.unusedVariables false
set_option maxHeartbeats 1000000
namespace Mine
noncomputable def crL : List Nat := [13, 10]
theorem crlf_of : crlfS = ofL crL := by decide +kernel
/-- a row: a dot and signs that end no line -/
noncomputable def GoodRow (r : List Nat) : Prop := ∃ t, r = 46 :: t ∧ ∀ c ∈ t, c ≠ 10 ∧ c ≠ 13
theorem nlF_free : ∀ (t s : List Nat), (∀ c ∈ t, c ≠ 10 ∧ c ≠ 13) → nlF false (t ++ s) = t ++ nlF false s
  | [], s, _ => rfl
  | c :: t, s, h => by
    have hc := h c (.head _)
    rw [List.cons_append, nlF, if_neg hc.2, if_neg hc.1, nlF_free t s fun x hx => h x (.tail _ hx), List.cons_append]
theorem nlF_row {r : List Nat} (h : GoodRow r) (b : Bool) (s : List Nat) : nlF b (r ++ s) = r ++ nlF false s := by
  obtain ⟨t, rfl, ht⟩ := h
  rw [List.cons_append, nlF, if_neg (by decide), if_neg (by decide), nlF_free t s ht, List.cons_append]
theorem nlF_end {e : List Nat} (he : e = [10] ∨ e = [13] ∨ e = [13, 10]) {r : List Nat} (h : GoodRow r) (s : List Nat) : nlF false (e ++ (r ++ s)) = crL ++ (r ++ nlF false s) := by
  rcases he with rfl | rfl | rfl
  · show nlF false (10 :: (r ++ s)) = _
    rw [nlF, if_neg (by decide), if_pos rfl, if_neg (by decide), nlF_row h]; rfl
  · show nlF false (13 :: (r ++ s)) = _
    rw [nlF, if_pos rfl, nlF_row h]; rfl
  · show nlF false (13 :: 10 :: (r ++ s)) = _
    rw [nlF, if_pos rfl, nlF, if_neg (by decide), if_pos rfl, if_pos rfl, nlF_row h]; rfl
theorem nl_jn {e : List Nat} (he : e = [10] ∨ e = [13] ∨ e = [13, 10]) : ∀ (rows : List (List Nat)), (∀ r ∈ rows, GoodRow r) → ∀ s, (rows = [] → s = []) → nl (jn e rows ++ s) = jn crL rows ++ (if rows = [] then [] else nlF false s)
  | [], _, s, hs => by rw [hs rfl]; rfl
  | [a], h, s, _ => by
    show nlF false (a ++ s) = a ++ _
    rw [nlF_row (h a (.head _))]; rfl
  | a :: b :: r, h, s, _ => by
    have ih := nl_jn he (b :: r) (fun x hx => h x (.tail _ hx)) s (fun q => by cases q)
    show nlF false (a ++ e ++ jn e (b :: r) ++ s) = a ++ crL ++ jn crL (b :: r) ++ nlF false s
    rw [List.append_assoc, List.append_assoc, nlF_row (h a (.head _)), List.append_assoc, List.append_assoc]
    congr 1
    have hb := h b (.tail _ (.head _))
    have key : ∀ X Y : List Nat, nlF false (b ++ X) = Y → nlF false (e ++ (b ++ X)) = crL ++ Y := fun X Y q => by
      rw [nlF_end he hb, ← q, nlF_row hb]
    unfold nl at ih
    cases r with
    | nil => exact key s _ ih
    | cons c r =>
      have e1 : jn e (b :: c :: r) ++ s = b ++ (e ++ jn e (c :: r) ++ s) := by show b ++ e ++ jn e (c :: r) ++ s = _; simp
      rw [e1] at ih ⊢
      exact key _ _ ih
theorem dt_free : ∀ (t s : List Nat), (∀ c ∈ t, c ≠ 10 ∧ c ≠ 13) → dt false (t ++ s) = t ++ dt false s
  | [], s, _ => rfl
  | c :: t, s, h => by
    have hc := h c (.head _)
    have e : (c == 10) = false := by simpa using hc.1
    rw [List.cons_append, dt, if_neg (by simp), e, dt_free t s fun x hx => h x (.tail _ hx), List.cons_append]
theorem dt_row {r : List Nat} (h : GoodRow r) (s : List Nat) : dt true (r ++ s) = 46 :: (r ++ dt false s) := by
  obtain ⟨t, rfl, ht⟩ := h
  rw [List.cons_append, dt, if_pos (by decide), dt_free t s ht, List.cons_append]
theorem dt_jn : ∀ (rows : List (List Nat)), (∀ r ∈ rows, GoodRow r) → dt true (jn crL rows) = jn crL (rows.map (46 :: ·))
  | [], _ => rfl
  | [a], h => by
    have := dt_row (h a (.head _)) []
    rw [List.append_nil] at this
    show dt true a = 46 :: a
    rw [this]; simp [dt]
  | a :: b :: r, h => by
    show dt true (a ++ crL ++ jn crL (b :: r)) = (46 :: a) ++ crL ++ jn crL ((b :: r).map (46 :: ·))
    rw [List.append_assoc, dt_row (h a (.head _))]
    have : dt false (crL ++ jn crL (b :: r)) = crL ++ dt true (jn crL (b :: r)) := by
      show dt false (13 :: 10 :: _) = _
      rw [dt, if_neg (by decide), dt, if_neg (by decide)]; rfl
    rw [this, dt_jn (b :: r) fun x hx => h x (.tail _ hx)]
    simp
theorem quote_jn {e : List Nat} (he : e = [10] ∨ e = [13] ∨ e = [13, 10]) {rows : List (List Nat)} (h : ∀ r ∈ rows, GoodRow r) : quoteS (ofL (jn e rows)) = ofL (jn crL (rows.map (46 :: ·))) := by
  unfold quoteS
  rw [ofL_cps]
  show ofL (dt true (nl (jn e rows))) = _
  have := nl_jn he rows h [] (fun _ => rfl)
  rw [List.append_nil] at this
  have e2 : (if rows = [] then ([] : List Nat) else nlF false []) = [] := by split <;> rfl
  rw [this, e2, List.append_nil, dt_jn rows h]
-- the split
theorem at_iff {X : List Nat} {i : Nat} : StrLaws.At (ofL X) crlfS (ofL X).length i ↔ (X.drop i).take 2 = [13, 10] := by
  unfold StrLaws.At
  have hl : crlfS.length = 2 := by rw [crlf_of, ofL_len]; rfl
  have hc : crlfS.cps.toList = [13, 10] := by rw [crlf_of, ofL_cps]; rfl
  rw [StrLaws.subAt_eq, hl, hc, ofL_len, ofL_cps]
  constructor
  · intro ⟨_, h⟩; exact eq_of_beq h
  · intro h
    refine ⟨?_, by rw [h]; rfl⟩
    have := congrArg List.length h
    rw [List.length_take, List.length_drop] at this
    simp only [List.length_cons, List.length_nil] at this
    omega
theorem strSub_ofL (X : List Nat) (i j : Nat) : strSub (ofL X) i j = ofL ((X.drop i).take (j - i)) := by
  have := StrLaws.strSub_toList (ofL X) i j
  rw [ofL_cps] at this
  rw [← this]; rfl
theorem chain_rows {X : List Nat} : ∀ (rows : List (List Nat)) (a : Nat) (cuts : List Nat) (f : Nat), rows ≠ [] → (∀ r ∈ rows, 13 ∉ r) → X.drop a = jn crL rows → StrLaws.ChainG (ofL X) crlfS (ofL X).length a cuts f → (∀ k, f ≤ k → ¬ StrLaws.At (ofL X) crlfS (ofL X).length k) →
    StrLaws.partsFrom (ofL X) crlfS.length a cuts = rows.map ofL
  | [], _, _, _, h, _, _, _, _ => absurd rfl h
  | [r], a, cuts, f, _, hr, hx, hc, hn => by
    cases cuts with
    | nil =>
      show [strSub (ofL X) a (ofL X).length] = [ofL r]
      rw [strSub_ofL, ofL_len, hx]
      have : (jn crL [r]) = r := rfl
      rw [this]
      have hl : r.length = X.length - a := by rw [← List.length_drop, hx]; rfl
      rw [← hl, List.take_length]
    | cons c rest =>
      obtain ⟨h1, h2, _⟩ := hc
      rw [at_iff] at h2
      exfalso
      have m : 13 ∈ X.drop c := List.mem_of_mem_take (i := 2) (by rw [h2]; simp)
      have m2 : 13 ∈ X.drop a := by
        have e : X.drop c = (X.drop a).drop (c - a) := by rw [List.drop_drop]; congr 1; omega
        rw [e] at m
        exact List.mem_of_mem_drop m
      rw [hx] at m2
      exact hr r (.head _) m2
  | r :: r' :: rs, a, cuts, f, _, hr, hx, hc, hn => by
    have hx' : X.drop a = r ++ (13 :: 10 :: jn crL (r' :: rs)) := by rw [hx]; show r ++ crL ++ _ = _; simp [crL]
    have hat : StrLaws.At (ofL X) crlfS (ofL X).length (a + r.length) := by
      rw [at_iff, ← List.drop_drop, hx', List.drop_left]; rfl
    cases cuts with
    | nil =>
      have e : f = a := hc
      exact absurd hat (hn _ (by omega))
    | cons c rest =>
      obtain ⟨h1, h2, h3, h4⟩ := hc
      have hle : c ≤ a + r.length := by
        rcases Nat.lt_or_ge (a + r.length) c with q | q
        · exact absurd hat (h3 _ (by omega) q)
        · exact q
      have hge : ¬ c < a + r.length := fun q => by
        rw [at_iff] at h2
        have e : X.drop c = (X.drop a).drop (c - a) := by rw [List.drop_drop]; congr 1; omega
        have hlt : c - a < r.length := by omega
        rw [e, hx', List.drop_append_of_le_length (by omega), List.drop_eq_getElem_cons hlt] at h2
        have h5 : r[c - a] = 13 := (List.cons.inj (show r[c - a] :: _ = 13 :: [10] from h2)).1
        exact hr r (.head _) (h5 ▸ List.getElem_mem hlt)
      have ec : c = a + r.length := by omega
      subst ec
      have hl : crlfS.length = 2 := by rw [crlf_of, ofL_len]; rfl
      show strSub (ofL X) a (a + r.length) :: StrLaws.partsFrom (ofL X) crlfS.length (a + r.length + crlfS.length) rest = ofL r :: (r' :: rs).map ofL
      rw [strSub_ofL, hx', Nat.add_sub_cancel_left, List.take_left]
      congr 1
      refine chain_rows (r' :: rs) _ rest f (by simp) (fun x h => hr x (.tail _ h)) ?_ h4 hn
      rw [hl, ← List.drop_drop, ← List.drop_drop, hx', List.drop_left]
      rfl
theorem kind_pos (x : Str) : 1 ≤ PySem.Builtin.Str.strKind x := by unfold PySem.Builtin.Str.strKind; split <;> (try split) <;> decide
theorem split_jn {rows : List (List Nat)} (hne : rows ≠ []) (hr : ∀ r ∈ rows, 13 ∉ r) : Txt.split (ofL (jn crL rows)) crlfS = rows.map ofL := by
  obtain ⟨f, hG, hn⟩ := StrLaws.occ_tight (ofL (jn crL rows)) crlfS (by rw [crlf_of, ofL_len]; decide)
  have key := chain_rows rows 0 _ f hne hr rfl hG hn
  have hk : PySem.Builtin.Str.strKind crlfS = 1 := by decide +kernel
  have hl : crlfS.length = 2 := by rw [crlf_of, ofL_len]; rfl
  have one : (occurrences (ofL (jn crL rows)) crlfS 0 (ofL (jn crL rows)).length ((ofL (jn crL rows)).length + 1)) = [] → [ofL (jn crL rows)] = rows.map ofL := fun q => by
    rw [q] at key
    rw [← key]
    show _ = [strSub _ 0 _]
    rw [StrLaws.sub_whole]
  unfold Txt.split
  split
  · rename_i h
    rw [Bool.or_eq_true] at h
    have hlt : (ofL (jn crL rows)).length < crlfS.length := by
      rcases h with h | h
      · exact of_decide_eq_true h
      · have := of_decide_eq_true h
        have := kind_pos (ofL (jn crL rows))
        omega
    refine one ?_
    cases q : (occurrences (ofL (jn crL rows)) crlfS 0 (ofL (jn crL rows)).length ((ofL (jn crL rows)).length + 1)) with
    | nil => rfl
    | cons c r =>
      rw [q] at hG
      have := hG.2.1.1
      omega
  · split
    · rename_i h
      exact one (List.isEmpty_iff.mp h)
    · rw [StrLaws.partsBetween_eq]
      exact key
end Mine
end
end
section
set_option Elab.async false
noncomputable section
open PySem PySem.W PySem.Calls PyProof.Rows PySem.Builtin PySem.Builtin.Str
set_option maxRecDepth 100000
set_option linter.unusedVariables false
set_option maxHeartbeats 1000000
namespace Mine
structure WOk (W : List (List Nat)) (size : Nat) : Prop where
  len : ∀ l ∈ W, l.length = size
  sgn : ∀ l ∈ W, ∀ c ∈ l, c = 45 ∨ c = 97 ∨ c = 98
  ne : W ≠ []
  many : W.length ≤ 100
  nod : W.Nodup
noncomputable def col (W : List (List Nat)) (k : Nat) : List Nat := W.map fun l => l.getD k 0
noncomputable def rowsAt (W : List (List Nat)) (i k : Nat) : List Nat := List.replicate (k + 1 + i) 46 ++ col W k
theorem mul_dots : ∀ k : Nat, k < 6 → Txt.mul ("." : Str) ((k : Int) + 1) = ofL (List.replicate (k + 1) 46) := by decide +kernel
theorem getD_get {l : List Nat} {k : Nat} (h : k < l.length) : l.getD k 0 = l[k] := by simp [List.getD, h]
theorem flat_one {α : Type} (f : α → Nat) : ∀ l : List α, (l.map fun x => [f x]).flatten = l.map f
  | [] => rfl
  | x :: r => by rw [List.map_cons, List.flatten_cons, flat_one f r]; rfl
theorem row_of {W : List (List Nat)} {size k : Nat} (O : WOk W size) (hk : k < size) (h6 : size ≤ 6) : rowOf (W.map ofL) k = ofL (rowsAt W 0 k) := by
  unfold rowOf rowsAt
  have e : (W.map ofL).map (fun x => Txt.item x (k : Int)) = (W.map fun l => [l.getD k 0]).map ofL := by
    rw [List.map_map, List.map_map]
    refine List.map_congr_left fun l hl => ?_
    have hlen := O.len l hl
    show Txt.item (ofL l) (k : Int) = ofL [l.getD k 0]
    rw [item_ofL (by omega), getD_get (by omega)]
  rw [e, join0, flat_one, mul_dots k (by omega), ofL_app]
  rfl
theorem col_mem {W : List (List Nat)} {size k : Nat} (O : WOk W size) (hk : k < size) : ∀ c ∈ col W k, c = 45 ∨ c = 97 ∨ c = 98 := fun c hc => by
  obtain ⟨l, hl, rfl⟩ := List.mem_map.mp hc
  have hlen := O.len l hl
  rw [getD_get (by omega)]
  exact O.sgn l hl _ (List.getElem_mem _)
theorem row_good {W : List (List Nat)} {size i k : Nat} (O : WOk W size) (hk : k < size) : GoodRow (rowsAt W i k) := by
  refine ⟨List.replicate (k + i) 46 ++ col W k, ?_, fun c hc => ?_⟩
  · unfold rowsAt
    have : k + 1 + i = (k + i) + 1 := by omega
    rw [this, List.replicate_succ]; rfl
  · rcases List.mem_append.mp hc with hc | hc
    · rw [List.eq_of_mem_replicate hc]; decide
    · rcases col_mem O hk c hc with rfl | rfl | rfl <;> decide
theorem row_free {W : List (List Nat)} {size i k : Nat} (O : WOk W size) (hk : k < size) : 13 ∉ rowsAt W i k := fun h => by
  obtain ⟨t, e, ht⟩ := row_good (i := i) O hk
  rw [e] at h
  rcases List.mem_cons.mp h with h | h
  · cases h
  · exact (ht _ h).2 rfl
theorem mail_eq {W : List (List Nat)} {size : Nat} {e : List Nat} (O : WOk W size) (h6 : size ≤ 6) (he : e = [10] ∨ e = [13] ∨ e = [13, 10]) : ∀ i, mailAt (W.map ofL) size (ofL e) i = ofL (jn (if i = 0 then e else crL) ((List.range size).map (rowsAt W i)))
  | 0 => by
    show Txt.join (ofL e) ((List.range size).map (rowOf (W.map ofL))) = _
    have : (List.range size).map (rowOf (W.map ofL)) = ((List.range size).map (rowsAt W 0)).map ofL := by
      rw [List.map_map]
      exact List.map_congr_left fun k hk => row_of O (List.mem_range.mp hk) h6
    rw [this, join_ofL, if_pos rfl]
  | i + 1 => by
    show quoteS (mailAt (W.map ofL) size (ofL e) i) = _
    have g : ∀ r ∈ (List.range size).map (rowsAt W i), GoodRow r := fun r hr => by
      obtain ⟨k, hk, rfl⟩ := List.mem_map.mp hr
      exact row_good O (List.mem_range.mp hk)
    have s : ((List.range size).map (rowsAt W i)).map (46 :: ·) = (List.range size).map (rowsAt W (i + 1)) := by
      rw [List.map_map]
      refine List.map_congr_left fun k _ => ?_
      show 46 :: (List.replicate (k + 1 + i) 46 ++ col W k) = List.replicate (k + 1 + (i + 1)) 46 ++ col W k
      rw [← Nat.add_assoc, List.replicate_succ]; rfl
    have he' : (if i = 0 then e else crL) = [10] ∨ (if i = 0 then e else crL) = [13] ∨ (if i = 0 then e else crL) = [13, 10] := by
      split
      · exact he
      · exact .inr (.inr rfl)
    rw [mail_eq O h6 he i, quote_jn he' g, s, if_neg (Nat.succ_ne_zero i)]
theorem jn_len {s : List Nat} {m : Nat} : ∀ rows : List (List Nat), (∀ r ∈ rows, r.length ≤ m) → (jn s rows).length ≤ (m + s.length) * rows.length
  | [], _ => by simp [jn]
  | [a], h => by have := h a (.head _); show a.length ≤ _; simp; omega
  | a :: b :: r, h => by
    have ih := jn_len (s := s) (b :: r) fun x hx => h x (.tail _ hx)
    have := h a (.head _)
    show (a ++ s ++ jn s (b :: r)).length ≤ (m + s.length) * ((b :: r).length + 1)
    rw [List.length_append, List.length_append, Nat.mul_add]
    omega
theorem row_length {W : List (List Nat)} {size i k : Nat} (O : WOk W size) (hk : k < size) (h6 : size ≤ 6) (hi : i ≤ 4) : (rowsAt W i k).length ≤ 110 := by
  unfold rowsAt col
  have := O.many
  rw [List.length_append, List.length_replicate, List.length_map]; omega
theorem mail_len {W : List (List Nat)} {size i : Nat} {e : List Nat} (O : WOk W size) (h6 : size ≤ 6) (he : e = [10] ∨ e = [13] ∨ e = [13, 10]) (hi : i ≤ 4) : (mailAt (W.map ofL) size (ofL e) i).length ≤ 672 := by
  rw [mail_eq O h6 he, ofL_len]
  have h1 := jn_len (s := if i = 0 then e else crL) (m := 110) ((List.range size).map (rowsAt W i)) fun r hr => by
    obtain ⟨k, hk, rfl⟩ := List.mem_map.mp hr
    exact row_length O (List.mem_range.mp hk) h6 hi
  have h2 : (if i = 0 then e else crL).length ≤ 2 := by
    split
    · rcases he with rfl | rfl | rfl <;> decide
    · decide
  rw [List.length_map, List.length_range] at h1
  have h3 : (110 + (if i = 0 then e else crL).length) * size ≤ 112 * 6 := Nat.mul_le_mul (by omega) h6
  omega
theorem parts_len (x : Str) (w : Nat) : ∀ (cuts : List Nat) (a : Nat), (StrLaws.partsFrom x w a cuts).length = cuts.length + 1
  | [], _ => rfl
  | c :: r, a => by
    show (StrLaws.partsFrom x w (c + w) r).length + 1 = _
    rw [parts_len x w r]; rfl
theorem between_len (x y : Str) : (partsBetween x (occurrences x y 0 x.length (x.length + 1)) y.length).length ≤ x.length + 2 := by
  rw [StrLaws.partsBetween_eq, parts_len]
  have := StrLaws.occ_length_le_len x y 0 x.length (x.length + 1)
  omega
theorem split_len (x y : Str) : (Txt.split x y).length ≤ x.length + 2 := by
  unfold Txt.split
  split
  · simp
  · split
    · simp
    · exact between_len x y
theorem split_eq {W : List (List Nat)} {size sends : Nat} {e : List Nat} (O : WOk W size) (h3 : 3 ≤ size) (h6 : size ≤ 6) (he : e = [10] ∨ e = [13] ∨ e = [13, 10]) (hs : 1 ≤ sends) : Txt.split (mailAt (W.map ofL) size (ofL e) sends) crlfS = ((List.range size).map (rowsAt W sends)).map ofL := by
  rw [mail_eq O h6 he, if_neg (by omega)]
  refine split_jn (fun q => ?_) fun r hr => ?_
  · have := congrArg List.length q
    rw [List.length_map, List.length_range] at this
    simp at this; omega
  · obtain ⟨k, hk, rfl⟩ := List.mem_map.mp hr
    exact row_free O (List.mem_range.mp hk)
theorem dot_of : ("." : Str) = ⟨#[46]⟩ := by decide +kernel
theorem lay_one {W : List (List Nat)} {size sends k : Nat} (O : WOk W size) (hk : k < size) (laid : List Str) : layRow size laid (ofL (rowsAt W sends k)) = laid.set ((k + sends) % size) (ofL (col W k)) := by
  unfold layRow
  have hc : Txt.count (ofL (rowsAt W sends k)) ("." : Str) = ((k + 1 + sends : Nat) : Int) := by
    rw [dot_of, count_ofL]
    unfold rowsAt
    rw [List.count_append, List.count_replicate_self]
    have : (col W k).count 46 = 0 := List.count_eq_zero.mpr fun h => by
      rcases col_mem O hk _ h with h | h | h <;> cases h
    rw [this]; rfl
  rw [hc]
  have e1 : ((((k + 1 + sends : Nat) : Int)) - 1).fmod (size : Int) = (((k + sends) % size : Nat) : Int) := by
    have : (((k + 1 + sends : Nat) : Int)) - 1 = ((k + sends : Nat) : Int) := by omega
    rw [this, (idm_nat _ _).2]
  rw [e1, Int.toNat_natCast]
  congr 1
  rw [slice_from (by unfold rowsAt; rw [List.length_append, List.length_replicate]; omega)]
  congr 1
  unfold rowsAt
  rw [List.drop_append_of_le_length (by rw [List.length_replicate]; omega), List.drop_of_length_le (by rw [List.length_replicate]; omega)]
  rfl
theorem lay_fold {W : List (List Nat)} {size sends : Nat} (O : WOk W size) : ∀ (ks : List Nat) (laid : List Str), (∀ k ∈ ks, k < size) → ((ks.map (rowsAt W sends)).map ofL).foldl (layRow size) laid = ks.foldl (fun laid k => laid.set ((k + sends) % size) (ofL (col W k))) laid
  | [], _, _ => rfl
  | k :: ks, laid, h => by
    rw [List.map_cons, List.map_cons, List.foldl_cons, List.foldl_cons, lay_one O (h k (.head _)), lay_fold O ks _ fun x hx => h x (.tail _ hx)]
theorem lay_cases (c : Nat → Str) : ∀ size sends : Nat, 3 ≤ size → size ≤ 6 → 1 ≤ sends → sends ≤ 4 → sends ≤ size →
    (List.range size).foldl (fun laid k => laid.set ((k + sends) % size) (c k)) (List.replicate size ("" : Str)) = (List.range size).map fun m => c ((m + (size - sends)) % size) := by
  intro size sends h1 h2 h3 h4 h5
  have hs : size = 3 ∨ size = 4 ∨ size = 5 ∨ size = 6 := by omega
  have hd : sends = 1 ∨ sends = 2 ∨ sends = 3 ∨ sends = 4 := by omega
  rcases hs with rfl | rfl | rfl | rfl <;> rcases hd with rfl | rfl | rfl | rfl <;> first | rfl | omega
theorem laid_eq {W : List (List Nat)} {size sends : Nat} (O : WOk W size) (h3 : 3 ≤ size) (h6 : size ≤ 6) (hs : 1 ≤ sends) (hs4 : sends ≤ 4) (hss : sends ≤ size) :
    laidAt size (((List.range size).map (rowsAt W sends)).map ofL) (((List.range size).map (rowsAt W sends)).map ofL).length = (List.range size).map fun m => ofL (col W ((m + (size - sends)) % size)) := by
  unfold laidAt
  rw [List.take_length, lay_fold O _ _ fun k hk => List.mem_range.mp hk]
  exact lay_cases (fun k => ofL (col W k)) size sends h3 h6 hs hs4 hss
theorem sent_one {W : List (List Nat)} {size sends j : Nat} (O : WOk W size) (h0 : 0 < size) (hss : sends ≤ size) (hj : j < W.length) : sentOf ((List.range size).map fun m => ofL (col W ((m + (size - sends)) % size))) j = ofL (rotL sends W[j]) := by
  unfold sentOf
  have hlen := O.len _ (List.getElem_mem hj)
  have e : ((List.range size).map fun m => ofL (col W ((m + (size - sends)) % size))).map (fun x => Txt.slice x (some (j : Int)) (some ((j : Int) + 1))) = ((List.range size).map fun m => [(W[j]).getD ((m + (size - sends)) % size) 0]).map ofL := by
    rw [List.map_map, List.map_map]
    refine List.map_congr_left fun m hm => ?_
    show Txt.slice (ofL (col W _)) _ _ = ofL [_]
    have hcl : j < (col W ((m + (size - sends)) % size)).length := by unfold col; rw [List.length_map]; exact hj
    rw [slice_one hcl]
    congr 2
    simp [col]
  rw [e, join0, flat_one]
  congr 1
  refine List.ext_getElem? fun m => ?_
  rcases Nat.lt_or_ge m size with h | h
  · rw [List.getElem?_map, List.getElem?_range h, Option.map_some, rotL_get (by omega) (by omega), hlen]
    have : (m + (size - sends)) % size < (W[j]).length := by rw [hlen]; exact Nat.mod_lt _ h0
    rw [getD_get this, List.getElem?_eq_getElem this]
  · rw [List.getElem?_eq_none (by simpa using h), List.getElem?_eq_none (by rw [rotL_len, hlen]; exact h)]
/-- the mail brings each word turned -/
theorem sent_all {W : List (List Nat)} {size sends : Nat} {e : List Nat} (O : WOk W size) (h3 : 3 ≤ size) (h6 : size ≤ 6) (he : e = [10] ∨ e = [13] ∨ e = [13, 10]) (hs : 1 ≤ sends) (hs4 : sends ≤ 4) (hss : sends ≤ size) :
    ((List.range (W.map ofL).length).map fun j => sentOf (laidAt size (Txt.split (mailAt (W.map ofL) size (ofL e) sends) crlfS) (Txt.split (mailAt (W.map ofL) size (ofL e) sends) crlfS).length) j) = W.map fun l => ofL (rotL sends l) := by
  rw [split_eq O h3 h6 he hs, laid_eq O h3 h6 hs hs4 hss, List.length_map]
  refine List.ext_getElem? fun j => ?_
  rcases Nat.lt_or_ge j W.length with h | h
  · rw [List.getElem?_map, List.getElem?_range h, Option.map_some, sent_one O (by omega) hss h, List.getElem?_map, List.getElem?_eq_getElem h]; rfl
  · rw [List.getElem?_eq_none (by simpa using h), List.getElem?_eq_none (by simpa using h)]
theorem nodup_ofL {W : List (List Nat)} (h : W.Nodup) : (W.map ofL).Nodup :=
  List.Pairwise.map ofL (fun _ _ hn e => hn (ofL_inj e)) h
theorem sent_okW {W : List (List Nat)} {size sends : Nat} {e : List Nat} (O : WOk W size) (h3 : 3 ≤ size) (h6 : size ≤ 6) (he : e = [10] ∨ e = [13] ∨ e = [13, 10]) (hs : 1 ≤ sends) (hs4 : sends ≤ 4) : SentOk (W.map ofL) size sends (ofL e) := by
  have many := O.many
  refine ⟨?_, by omega, h6, by rw [List.length_map]; omega, fun x hx => ?_, nodup_ofL O.nod, ?_, fun i hi => ?_, hs4, fun i hi => ?_, fun x hx => ?_⟩
  · cases W with
    | nil => exact absurd rfl O.ne
    | cons l r => exact ⟨ofL l, rfl, by rw [ofL_len]; exact O.len l (.head _)⟩
  · obtain ⟨l, hl, rfl⟩ := List.mem_map.mp hx
    rw [ofL_len]; exact O.len l hl
  · rw [ofL_len]; rcases he with rfl | rfl | rfl <;> decide
  · have := mail_len (i := i) O h6 he (by omega)
    show (mailAt (W.map ofL) size (ofL e) i).length ≤ _
    omega
  · have h1 := mail_len (i := i) O h6 he (by omega)
    have h2 := split_len (mailAt (W.map ofL) size (ofL e) i) crlfS
    have h3 := between_len (mailAt (W.map ofL) size (ofL e) i) crlfS
    exact ⟨by omega, by omega⟩
  · rw [split_eq O h3 h6 he hs] at hx
    obtain ⟨r, hr, rfl⟩ := List.mem_map.mp hx
    obtain ⟨k, hk, rfl⟩ := List.mem_map.mp hr
    have := row_length (i := sends) O (List.mem_range.mp hk) h6 hs4
    rw [ofL_len]; omega
end Mine
end
end
section
set_option Elab.async false
noncomputable section
open PySem PySem.W PySem.Calls PyProof.Rows
set_option maxRecDepth 100000
set_option linter.unusedVariables false
set_option maxHeartbeats 1000000
namespace Mine
noncomputable def rotIL (n : Nat) (l : List Nat) : Nat → List Nat
  | 0 => l
  | i + 1 => rotL n (rotIL n l i)
theorem rotIL_len {n : Nat} {l : List Nat} : ∀ i, (rotIL n l i).length = l.length
  | 0 => rfl
  | i + 1 => by show (rotL n (rotIL n l i)).length = _; rw [rotL_len, rotIL_len i]
theorem rotI_ofL {n : Nat} {l : List Nat} (h : n ≤ l.length) : ∀ i, rotI (n : Int) (ofL l) i = ofL (rotIL n l i)
  | 0 => rfl
  | i + 1 => by
    show rotS (n : Int) (rotI (n : Int) (ofL l) i) = _
    rw [rotI_ofL h i, rotS_ofL (by rw [rotIL_len]; exact h)]; rfl
theorem rotIL_get {n : Nat} {l : List Nat} (hn : n ≤ l.length) {m : Nat} (hm : m < l.length) : ∀ i, (rotIL n l i)[m]? = l[(m + i * (l.length - n)) % l.length]?
  | 0 => by
    show l[m]? = _
    rw [Nat.zero_mul, Nat.add_zero, Nat.mod_eq_of_lt hm]
  | i + 1 => by
    show (rotL n (rotIL n l i))[m]? = _
    have hl := rotIL_len (n := n) (l := l) i
    rw [rotL_get (by rw [hl]; exact hn) (by rw [hl]; exact hm), hl, rotIL_get hn (Nat.mod_lt _ (by omega)) i]
    congr 1
    rw [Nat.mod_add_mod, Nat.add_mul, Nat.one_mul]
    congr 1; omega
theorem rotIL_full {n : Nat} {l : List Nat} (hn : n ≤ l.length) : rotIL n l l.length = l := by
  refine List.ext_getElem? fun m => ?_
  rcases Nat.lt_or_ge m l.length with h | h
  · rw [rotIL_get hn h, Nat.add_mul_mod_self_left, Nat.mod_eq_of_lt h]
  · rw [List.getElem?_eq_none h, List.getElem?_eq_none (by rw [rotIL_len]; exact h)]
theorem ring_okL {n : Nat} {l : List Nat} (hn : n ≤ l.length) (h0 : 0 < l.length) (h6 : l.length ≤ 6) : RingOk (n : Int) (ofL l) ∧ homeN (n : Int) (ofL l) + 1 ≤ l.length := by
  have hit : (rotI (n : Int) (ofL l) (l.length - 1 + 1) == ofL l) = true := by
    rw [rotI_ofL hn, show l.length - 1 + 1 = l.length by omega, rotIL_full hn]; simp
  obtain ⟨i, hi⟩ : ∃ i, (List.range 6).find? (fun i => rotI (n : Int) (ofL l) (i + 1) == ofL l) = some i := by
    cases q : (List.range 6).find? (fun i => rotI (n : Int) (ofL l) (i + 1) == ofL l) with
    | some i => exact ⟨i, rfl⟩
    | none =>
      rw [List.find?_range_eq_none] at q
      have := q (l.length - 1) (by omega)
      rw [hit] at this; simp at this
  have hh : homeN (n : Int) (ofL l) = i := by unfold homeN; rw [hi]; rfl
  rw [List.find?_range_eq_some] at hi
  obtain ⟨h1, h2, h3⟩ := hi
  have h2' : i < 6 := by simpa using h2
  rw [hh]
  refine ⟨⟨by rw [hh]; exact eq_of_beq h1, fun j hj e => ?_, by rw [hh]; exact h2', fun j _ => ?_⟩, ?_⟩
  · rw [hh] at hj
    have := h3 j hj
    rw [e] at this; simp at this
  · rw [rotI_ofL hn, ofL_len, rotIL_len]; exact h6
  · rcases Nat.lt_or_ge (l.length - 1) i with q | q
    · have := h3 (l.length - 1) q
      rw [hit] at this; simp at this
    · omega
-- the filed rings
theorem getP_mem (items : List (Str × Str)) (x : Str) : (getP items x).isSome = true ↔ x ∈ items.map fun p => Txt.lower p.1 := by
  unfold getP
  rw [Option.isSome_map, List.find?_isSome, List.mem_map]
  constructor
  · rintro ⟨p, hp, e⟩; exact ⟨p, hp, eq_of_beq e⟩
  · rintro ⟨p, hp, e⟩; exact ⟨p, hp, by simp [e]⟩
structure FdH (n : Int) (f : Str → Str) (words : List Str) : Prop where
  ring : ∀ x ∈ words, RingOk n x ∧ homeN n x + 1 ≤ x.length
  step : ∀ x ∈ words, f x = rotS n x ∧ rotS n x ∈ words
  low : ∀ x ∈ words, Txt.lower x = x ∧ Txt.lower (Txt.upper x) = x
theorem FdH.mem {n : Int} {f : Str → Str} {words : List Str} (H : FdH n f words) {x : Str} (hx : x ∈ words) : ∀ i, rotI n x i ∈ words
  | 0 => hx
  | i + 1 => (H.step _ (H.mem hx i)).2
theorem FdH.now {n : Int} {f : Str → Str} {words : List Str} (H : FdH n f words) {x : Str} (hx : x ∈ words) : ∀ i, flNow f x i = (if i % 2 = 1 then Txt.upper (rotI n x i) else rotI n x i) ∧ Txt.lower (flNow f x i) = rotI n x i := by
  have low : ∀ i, flNow f x i = (if i % 2 = 1 then Txt.upper (rotI n x i) else rotI n x i) → Txt.lower (flNow f x i) = rotI n x i := fun i e => by
    have hl := H.low _ (H.mem hx i)
    rw [e]; split
    · exact hl.2
    · exact hl.1
  intro i
  induction i with
  | zero => exact ⟨rfl, low 0 rfl⟩
  | succ i ih =>
    have e : flNow f x (i + 1) = (if (i + 1) % 2 = 1 then Txt.upper (rotI n x (i + 1)) else rotI n x (i + 1)) := by
      show (if i % 2 = 0 then Txt.upper (f (Txt.lower (flNow f x i))) else f (Txt.lower (flNow f x i))) = _
      rw [ih.2, (H.step _ (H.mem hx i)).1]
      by_cases q : i % 2 = 0
      · rw [if_pos q, if_pos (by omega)]; rfl
      · rw [if_neg q, if_neg (by omega)]; rfl
    exact ⟨e, low _ e⟩
theorem rotI_add (n : Int) (x : Str) (i : Nat) : ∀ j, rotI n x (i + j) = rotI n (rotI n x i) j
  | 0 => rfl
  | j + 1 => by show rotS n (rotI n x (i + j)) = rotS n (rotI n (rotI n x i) j); rw [rotI_add n x i j]
theorem rotI_closed {n : Int} {known : List Str} (hc : ∀ y ∈ known, rotS n y ∈ known) {y : Str} (hy : y ∈ known) : ∀ j, rotI n y j ∈ known
  | 0 => hy
  | j + 1 => hc _ (rotI_closed hc hy j)
theorem dueTo_app (rings : List (List Str)) (r : List Str) : ∀ n, n ≤ rings.length → dueTo (rings ++ [r]) n = dueTo rings n
  | 0, _ => rfl
  | n + 1, h => by
    have e : (rings ++ [r]).getD n [] = rings.getD n [] := by
      simp [List.getD, List.getElem?_append_left (show n < rings.length by omega)]
    rw [dueTo_succ, dueTo_succ, dueTo_app rings r n (by omega), e]
theorem dueTo_snoc (rings : List (List Str)) (r : List Str) : dueTo (rings ++ [r]) (rings ++ [r]).length = dueTo rings rings.length ++ dueRing r rings.length r.length := by
  have e : (rings ++ [r]).getD rings.length [] = r := by simp [List.getD]
  rw [List.length_append, List.length_singleton, dueTo_succ, dueTo_app rings r _ (Nat.le_refl _), e]
structure FdInv (n : Int) (words : List Str) (fl : List (Str × Str) × Nat) (rg : List (List Str) × List Str) : Prop where
  its : fl.1 = dueTo rg.1 rg.1.length
  cnt : fl.2 = rg.1.length
  known : fl.1.map (fun p => Txt.lower p.1) = rg.2
  closed : ∀ y ∈ rg.2, rotS n y ∈ rg.2
theorem FdH.stepInv {n : Int} {f : Str → Str} {words : List Str} (H : FdH n f words) {fl : List (Str × Str) × Nat} {rg : List (List Str) × List Str} (I : FdInv n words fl rg) {x : Str} (hx : x ∈ words) : FdInv n words (flWord f fl x) (rgStep n rg x) := by
  obtain ⟨its, c⟩ := fl
  obtain ⟨rings, known⟩ := rg
  obtain ⟨i1, i2, i3, i4⟩ := I
  dsimp only at i1 i2 i3 i4
  obtain ⟨R, hlen⟩ := H.ring x hx
  have hnow := H.now hx
  have nm : ∀ j, (flIt f x (tagS c) its j).map (fun p => Txt.lower p.1) = known ++ (List.range j).map (rotI n x) := fun j => by
    unfold flIt
    rw [List.map_append, i3, List.map_map]
    congr 1
    exact List.map_congr_left fun k _ => (hnow k).2
  have stop : ∀ j, flStop f x (tagS c) its j = true ↔ rotI n x j ∈ known ++ (List.range j).map (rotI n x) := fun j => by
    unfold flStop
    rw [getP_mem, nm, (hnow j).2]
  by_cases hk : known.any (· == x) = true
  · have hxk : x ∈ known := by
      obtain ⟨y, hy, e⟩ := List.any_eq_true.mp hk
      exact eq_of_beq e ▸ hy
    have hN : flN f x (tagS c) its = 0 := flN_at (by omega) (fun j hj => absurd hj (Nat.not_lt_zero _)) ((stop 0).mpr (List.mem_append_left _ hxk))
    have e1 : flWord f (its, c) x = (its, c) := by
      unfold flWord
      dsimp only
      rw [hN]
      unfold flIt
      simp [cnt]
    have e2 : rgStep n (rings, known) x = (rings, known) := by unfold rgStep; rw [if_pos hk]
    rw [e1, e2]
    exact ⟨i1, i2, i3, i4⟩
  · have hxk : x ∉ known := fun hm => hk (List.any_eq_true.mpr ⟨x, hm, by simp⟩)
    have hno : ∀ j, j < homeN n x + 1 → flStop f x (tagS c) its j = false := fun j hj => by
      refine eq_false_of_ne_true fun hs => ?_
      rw [stop] at hs
      rcases List.mem_append.mp hs with hs | hs
      · have := rotI_closed i4 hs (homeN n x + 1 - j)
        rw [← rotI_add, show j + (homeN n x + 1 - j) = homeN n x + 1 by omega, R.home] at this
        exact hxk this
      · obtain ⟨k, hkj, ek⟩ := List.mem_map.mp hs
        have hkj := List.mem_range.mp hkj
        have e3 : rotI n x (k + (homeN n x + 1 - j)) = x := by
          rw [rotI_add, ek, ← rotI_add, show j + (homeN n x + 1 - j) = homeN n x + 1 by omega, R.home]
        have := R.first (k + (homeN n x + 1 - j) - 1) (by omega)
        rw [show k + (homeN n x + 1 - j) - 1 + 1 = k + (homeN n x + 1 - j) by omega] at this
        exact this e3
    have hN : flN f x (tagS c) its = homeN n x + 1 := by
      rcases Nat.lt_or_ge (homeN n x + 1) x.length with q | q
      · refine flN_at q hno ((stop _).mpr (List.mem_append_right _ (List.mem_map.mpr ⟨0, List.mem_range.mpr (by omega), ?_⟩)))
        rw [R.home]; rfl
      · have e : homeN n x + 1 = x.length := by omega
        rw [e]
        exact flN_end fun j hj => hno j (by omega)
    have e1 : flWord f (its, c) x = (flIt f x (tagS c) its (homeN n x + 1), c + 1) := by
      unfold flWord
      dsimp only
      rw [hN]; rfl
    have e2 : rgStep n (rings, known) x = (rings ++ [ringOf n x], known ++ ringOf n x) := by unfold rgStep; rw [if_neg hk]
    rw [e1, e2]
    refine ⟨?_, ?_, ?_, ?_⟩
    · show flIt _ _ _ _ _ = dueTo (rings ++ [ringOf n x]) (rings ++ [ringOf n x]).length
      rw [dueTo_snoc, ← i1]
      unfold flIt dueRing
      congr 1
      have hl : (ringOf n x).length = homeN n x + 1 := ringTo_len n x _
      rw [hl]
      refine List.map_congr_left fun j hj => ?_
      have hj := List.mem_range.mp hj
      have hg : (ringOf n x).getD j ("" : Str) = rotI n x j := by
        unfold ringOf ringTo
        simp [List.getD, hj]
      unfold dueAt
      rw [hg, (hnow j).1, i2]
    · show c + 1 = (rings ++ [ringOf n x]).length
      rw [i2, List.length_append]; rfl
    · exact nm _
    · intro y hy
      rcases List.mem_append.mp hy with hy | hy
      · exact List.mem_append_left _ (i4 y hy)
      · obtain ⟨j, hj, rfl⟩ := List.mem_map.mp hy
        have hj := List.mem_range.mp hj
        refine List.mem_append_right _ (List.mem_map.mpr ?_)
        rcases Nat.lt_or_ge (j + 1) (homeN n x + 1) with q | q
        · exact ⟨j + 1, List.mem_range.mpr q, rfl⟩
        · refine ⟨0, List.mem_range.mpr (by omega), ?_⟩
          have : j + 1 = homeN n x + 1 := by omega
          show x = rotI n x (j + 1)
          rw [this, R.home]
theorem FdH.inv {n : Int} {f : Str → Str} {words : List Str} (H : FdH n f words) : ∀ i, FdInv n words (flAt f words i) (rgAt n words i)
  | 0 => ⟨rfl, rfl, rfl, fun y hy => by cases hy⟩
  | i + 1 => by
    cases e : words[i]? with
    | none =>
      have e1 : flAt f words (i + 1) = flAt f words i := by unfold flAt; rw [List.take_add_one, e]; simp
      have e2 : rgAt n words (i + 1) = rgAt n words i := by unfold rgAt; rw [List.take_add_one, e]; simp
      rw [e1, e2]; exact H.inv i
    | some x =>
      rw [flAt_succ e, rgAt_succ e]
      exact H.stepInv (H.inv i) (List.mem_of_getElem? e)
theorem FdH.due {n : Int} {f : Str → Str} {words : List Str} (H : FdH n f words) : (flAt f words words.length).1 = dueTo (rgAt n words words.length).1 (rgAt n words words.length).1.length := (H.inv words.length).its
end Mine
end
end
section
set_option Elab.async false
noncomputable section
open PySem PySem.W PySem.Calls PyProof.Rows
set_option maxRecDepth 100000
set_option linter.unusedVariables false
set_option maxHeartbeats 1000000
set_option exponentiation.threshold 10
namespace Mine
-- words as lists
noncomputable def msC (a b c : Nat) : List (Nat × Nat) := [(45, a), (97, b), (98, c)].filter fun p => decide (0 < p.2)
noncomputable def wStepL (ms : List (Nat × Nat)) (ws : List (List Nat)) : List (List Nat) := ws.flatMap fun fr => (ms.filter fun m => decide (fr.count m.1 < m.2)).map fun m => fr ++ [m.1]
noncomputable def wAllL (ms : List (Nat × Nat)) : Nat → List (List Nat)
  | 0 => [[]]
  | n + 1 => wStepL ms (wAllL ms n)
noncomputable def WL (a b c : Nat) : List (List Nat) := wAllL (msC a b c) (a + b + c)
theorem most_ofL (l : List Nat) : mostOf (ofL l) = (msC (l.count 45) (l.count 97) (l.count 98)).map fun p => ((⟨#[p.1]⟩ : Str), (p.2 : Int)) := by
  unfold mostOf
  have e : ("-ab" : Str).cps.toList = [45, 97, 98] := by decide +kernel
  rw [e]
  simp only [List.map_cons, List.map_nil, List.filter_cons, List.filter_nil, cont_ofL, count_ofL]
  have h : ∀ c, decide (c ∈ l) = decide (0 < l.count c) := fun c => by rw [decide_eq_decide, List.count_pos_iff]
  rw [h 45, h 97, h 98]
  unfold msC
  simp only [List.filter_cons, List.filter_nil]
  by_cases h1 : 0 < l.count 45 <;> by_cases h2 : 0 < l.count 97 <;> by_cases h3 : 0 < l.count 98 <;> simp [h1, h2, h3, count_ofL]
theorem wStep_ofL (ms : List (Nat × Nat)) (ws : List (List Nat)) : wStep (ms.map fun p => ((⟨#[p.1]⟩ : Str), (p.2 : Int))) (ws.map ofL) = (wStepL ms ws).map ofL := by
  unfold wStep wStepL
  rw [List.flatMap_map, List.map_flatMap]
  congr 1
  funext fr
  rw [List.filter_map, List.map_map, List.map_map]
  have e : (ms.filter ((fun m : Str × Int => decide (Txt.count (ofL fr) m.1 < m.2)) ∘ fun p : Nat × Nat => ((⟨#[p.1]⟩ : Str), (p.2 : Int)))) = ms.filter fun m => decide (fr.count m.1 < m.2) := by
    refine List.filter_congr fun p _ => ?_
    show decide (Txt.count (ofL fr) ⟨#[p.1]⟩ < (p.2 : Int)) = _
    rw [count_ofL, decide_eq_decide]
    omega
  rw [e]
  refine List.map_congr_left fun p _ => ?_
  show ofL fr ++ ofL [p.1] = ofL (fr ++ [p.1])
  rw [ofL_app]
theorem wAll_ofL (l : List Nat) : ∀ n, wAll (ofL l) n = (wAllL (msC (l.count 45) (l.count 97) (l.count 98)) n).map ofL
  | 0 => by show [("" : Str)] = [ofL []]; rfl
  | n + 1 => by
    show wStep (mostOf (ofL l)) (wAll (ofL l) n) = _
    rw [wAll_ofL l n, most_ofL, wStep_ofL]; rfl
theorem count_all {l : List Nat} (h : ∀ c ∈ l, c = 45 ∨ c = 97 ∨ c = 98) : l.count 45 + l.count 97 + l.count 98 = l.length := by
  induction l with
  | nil => rfl
  | cons x r ih =>
    have := ih fun c hc => h c (.tail _ hc)
    rcases h x (.head _) with rfl | rfl | rfl <;> simp <;> omega
theorem words_ofL {l : List Nat} (h : ∀ c ∈ l, c = 45 ∨ c = 97 ∨ c = 98) : wordsOf (ofL l) = (WL (l.count 45) (l.count 97) (l.count 98)).map ofL := by
  unfold wordsOf WL
  rw [wAll_ofL, ofL_len, count_all h]
-- rings as lists
noncomputable def homeL (n : Nat) (l : List Nat) : Nat := ((List.range 6).find? fun i => rotIL n l (i + 1) == l).getD 0
noncomputable def ringL (n : Nat) (l : List Nat) : List (List Nat) := (List.range (homeL n l + 1)).map (rotIL n l)
noncomputable def rgL (n : Nat) (st : List Nat × List (List Nat)) (l : List Nat) : List Nat × List (List Nat) := if st.2.any (· == l) then st else (st.1 ++ [homeL n l + 1], st.2 ++ ringL n l)
noncomputable def lensOf (n : Nat) (W : List (List Nat)) : List Nat := (W.foldl (rgL n) ([], [])).1
theorem homeL_eq {n : Nat} {l : List Nat} (h : n ≤ l.length) : homeN (n : Int) (ofL l) = homeL n l := by
  unfold homeN homeL
  congr 2
  funext i
  rw [rotI_ofL h, ofL_beq]
theorem ringL_eq {n : Nat} {l : List Nat} (h : n ≤ l.length) : ringOf (n : Int) (ofL l) = (ringL n l).map ofL := by
  unfold ringOf ringTo ringL
  rw [homeL_eq h, List.map_map]
  exact List.map_congr_left fun i _ => rotI_ofL h i
theorem rg_fold {n : Nat} : ∀ (W : List (List Nat)) (st : List (List Str) × List Str) (sl : List Nat × List (List Nat)), (∀ l ∈ W, n ≤ l.length) → st.1.map (·.length) = sl.1 → st.2 = sl.2.map ofL →
    ((W.map ofL).foldl (rgStep (n : Int)) st).1.map (·.length) = (W.foldl (rgL n) sl).1
  | [], _, _, _, h1, _ => h1
  | l :: W, st, sl, hn, h1, h2 => by
    rw [List.map_cons, List.foldl_cons, List.foldl_cons]
    have hl := hn l (.head _)
    have e : st.2.any (· == ofL l) = sl.2.any (· == l) := by
      rw [h2, List.any_map]
      congr 1
      funext x
      exact ofL_beq x l
    refine rg_fold W _ _ (fun x hx => hn x (.tail _ hx)) ?_ ?_
    · unfold rgStep rgL
      rw [e]
      split
      · exact h1
      · show (st.1 ++ [ringOf (n : Int) (ofL l)]).map (·.length) = sl.1 ++ [homeL n l + 1]
        rw [List.map_append, h1]
        congr 1
        show [(ringOf (n : Int) (ofL l)).length] = _
        rw [ringL_eq hl, List.length_map]
        unfold ringL
        rw [List.length_map, List.length_range]
    · unfold rgStep rgL
      rw [e]
      split
      · exact h2
      · show st.2 ++ ringOf (n : Int) (ofL l) = (sl.2 ++ ringL n l).map ofL
        rw [List.map_append, h2, ringL_eq hl]
theorem lens_eq {n : Nat} {W : List (List Nat)} (hn : ∀ l ∈ W, n ≤ l.length) : (rgAt (n : Int) (W.map ofL) (W.map ofL).length).1.map (·.length) = lensOf n W := by
  unfold rgAt lensOf
  rw [List.take_length]
  exact rg_fold W ([], []) ([], []) hn rfl rfl
noncomputable def toldN (home : Nat) (lens : List Nat) : List Nat := (List.range home).map fun j => (lens.filter fun k => j % (home / k) == 0).length
theorem told_eq (home : Nat) (rings : List (List Str)) : toldL home rings = toldN home (rings.map (·.length)) := by
  unfold toldL toldN
  refine List.map_congr_left fun j _ => ?_
  rw [List.filter_map, List.length_map]; rfl
-- the check of a case
noncomputable def nodB : List (List Nat) → Bool
  | [] => true
  | l :: r => !r.contains l && nodB r
theorem nodB_nodup : ∀ {W : List (List Nat)}, nodB W = true → W.Nodup
  | [], _ => List.nodup_nil
  | l :: r, h => by
    unfold nodB at h
    rw [Bool.and_eq_true] at h
    refine List.nodup_cons.mpr ⟨fun hm => ?_, nodB_nodup h.2⟩
    have := h.1
    rw [List.contains_iff_mem.mpr hm] at this
    cases this
noncomputable def homeC (size sends : Nat) : Nat := ((List.range size).find? fun i => (i + 1) * sends % size == 0).getD 0 + 1
noncomputable def numB (width home size : Nat) (cs lens : List Nat) : Bool :=
  let ab := abN (2 ^ width) size
  let bl := blAt (2 ^ width) cs cs.length
  ab != 0 && (ab % bl == 0 && (((digs width (ab / bl % ((2 ^ width) ^ home - 1))) ++ List.replicate home 0).take home == toldN home lens))
noncomputable def csOf (a b c : Nat) : List Nat := if a + b + c < 5 then [a, b, c] else [a, b]
noncomputable def chk (a b c sends : Nat) : Bool :=
  let W := WL a b c
  let home := homeC (a + b + c) sends
  let lens := lensOf sends W
  (!W.isEmpty && decide (W.length ≤ 100)) && (W.all (fun l => l.length == a + b + c && l.all fun x => x == 45 || (x == 97 || x == 98)) && (nodB W && (W.all (fun l => W.contains (rotL sends l)) && (lens.all (fun k => decide (0 < k) && decide (k ≤ home)) && (List.range 8).all fun w => numB (6 + w) home (a + b + c) (csOf a b c) lens))))
noncomputable def allC (size : Nat) : List (Nat × Nat × Nat) := (List.range (size + 1)).flatMap fun a => (List.range (size + 1 - a)).map fun b => (a, b, size - a - b)
theorem chk3_1 : ((allC 3).all fun p => chk p.1 p.2.1 p.2.2 1) = true := by decide +kernel
theorem chk3_2 : ((allC 3).all fun p => chk p.1 p.2.1 p.2.2 2) = true := by decide +kernel
theorem chk3_3 : ((allC 3).all fun p => chk p.1 p.2.1 p.2.2 3) = true := by decide +kernel
theorem chk4_1 : ((allC 4).all fun p => chk p.1 p.2.1 p.2.2 1) = true := by decide +kernel
theorem chk4_2 : ((allC 4).all fun p => chk p.1 p.2.1 p.2.2 2) = true := by decide +kernel
theorem chk4_3 : ((allC 4).all fun p => chk p.1 p.2.1 p.2.2 3) = true := by decide +kernel
theorem chk4_4 : ((allC 4).all fun p => chk p.1 p.2.1 p.2.2 4) = true := by decide +kernel
theorem chk5_1 : ((List.range 6).all fun a => chk a (5 - a) 0 1) = true := by decide +kernel
theorem chk5_2 : ((List.range 6).all fun a => chk a (5 - a) 0 2) = true := by decide +kernel
theorem chk5_3 : ((List.range 6).all fun a => chk a (5 - a) 0 3) = true := by decide +kernel
theorem chk5_4 : ((List.range 6).all fun a => chk a (5 - a) 0 4) = true := by decide +kernel
theorem chk6_1 : ((List.range 7).all fun a => chk a (6 - a) 0 1) = true := by decide +kernel
theorem chk6_2 : ((List.range 7).all fun a => chk a (6 - a) 0 2) = true := by decide +kernel
theorem chk6_3 : ((List.range 7).all fun a => chk a (6 - a) 0 3) = true := by decide +kernel
theorem chk6_4 : ((List.range 7).all fun a => chk a (6 - a) 0 4) = true := by decide +kernel
end Mine
end
end
section
set_option Elab.async false
noncomputable section
open PySem PySem.W PySem.Calls PyProof.Rows
set_option maxRecDepth 100000
set_option linter.unusedVariables false
set_option maxHeartbeats 1000000
set_option exponentiation.threshold 10
namespace Mine
noncomputable def upL (l : List Nat) : List Nat := l.map up1
theorem sgn_ascii {l : List Nat} (h : ∀ c ∈ l, c = 45 ∨ c = 97 ∨ c = 98) : ∀ c ∈ (ofL l).cps.toList, c < 128 := fun c hc => by
  rcases h c hc with rfl | rfl | rfl <;> decide
theorem up_ofL {l : List Nat} (h : ∀ c ∈ l, c = 45 ∨ c = 97 ∨ c = 98) : Txt.upper (ofL l) = ofL (upL l) := by
  rw [upper_ascii (sgn_ascii h)]; simp [ofL, upL]
theorem low_ofL {l : List Nat} (h : ∀ c ∈ l, c = 45 ∨ c = 97 ∨ c = 98) : Txt.lower (ofL l) = ofL l := by
  rw [lower_ascii (sgn_ascii h)]
  have : l.map lo1 = l := by
    conv => rhs; rw [← List.map_id l]
    refine List.map_congr_left fun c hc => ?_
    rcases h c hc with rfl | rfl | rfl <;> rfl
  show (⟨l.toArray.map lo1⟩ : Str) = ofL l
  rw [List.map_toArray, this]; rfl
theorem upL_mem {l : List Nat} (h : ∀ c ∈ l, c = 45 ∨ c = 97 ∨ c = 98) : ∀ c ∈ upL l, c = 45 ∨ c = 65 ∨ c = 66 := fun c hc => by
  obtain ⟨x, hx, rfl⟩ := List.mem_map.mp hc
  rcases h x hx with rfl | rfl | rfl <;> decide
theorem low_up {l : List Nat} (h : ∀ c ∈ l, c = 45 ∨ c = 97 ∨ c = 98) : Txt.lower (ofL (upL l)) = ofL l := by
  rw [lower_ascii fun c hc => by rcases upL_mem h c hc with rfl | rfl | rfl <;> decide]
  have : (upL l).map lo1 = l := by
    unfold upL
    rw [List.map_map]
    conv => rhs; rw [← List.map_id l]
    refine List.map_congr_left fun c hc => ?_
    rcases h c hc with rfl | rfl | rfl <;> rfl
  show (⟨(upL l).toArray.map lo1⟩ : Str) = ofL l
  rw [List.map_toArray, this]; rfl
theorem lookup_rot {sends : Nat} {l : List Nat} : ∀ {W : List (List Nat)}, l ∈ W → ((W.map ofL).zip (W.map fun l => ofL (rotL sends l))).lookup (ofL l) = some (ofL (rotL sends l))
  | k :: W, h => by
    rw [List.map_cons, List.map_cons, List.zip_cons_cons, List.lookup_cons]
    cases q : (ofL l == ofL k) with
    | true => rw [ofL_inj (eq_of_beq q)]
    | false =>
      rcases List.mem_cons.mp h with e | h
      · rw [e] at q; simp at q
      · exact lookup_rot h
section
variable {W : List (List Nat)} {size sends : Nat}
theorem fdh (O : WOk W size) (h3 : 3 ≤ size) (h6 : size ≤ 6) (hs : sends ≤ size) (hc : ∀ l ∈ W, rotL sends l ∈ W) : FdH (sends : Int) (aft (W.map ofL) (W.map fun l => ofL (rotL sends l))) (W.map ofL) := by
  refine ⟨fun x hx => ?_, fun x hx => ?_, fun x hx => ?_⟩
  · obtain ⟨l, hl, rfl⟩ := List.mem_map.mp hx
    have hlen := O.len l hl
    have := ring_okL (n := sends) (l := l) (by omega) (by omega) (by omega)
    rw [ofL_len]; exact this
  · obtain ⟨l, hl, rfl⟩ := List.mem_map.mp hx
    have hlen := O.len l hl
    rw [rotS_ofL (by omega)]
    refine ⟨?_, List.mem_map.mpr ⟨_, hc l hl, rfl⟩⟩
    unfold aft
    rw [lookup_rot hl]; rfl
  · obtain ⟨l, hl, rfl⟩ := List.mem_map.mp hx
    have := O.sgn l hl
    exact ⟨low_ofL this, by rw [up_ofL this, low_up this]⟩
theorem filed_okW (O : WOk W size) (h6 : size ≤ 6) (hc : ∀ l ∈ W, rotL sends l ∈ W) : FiledOk (W.map ofL) (W.map ofL) (W.map fun l => ofL (rotL sends l)) := by
  refine ⟨⟨fun x => ∃ l ∈ W, x = ofL l ∨ x = ofL (upL l), fun x hx => ?_, fun x ⟨l, hl, hx⟩ => ?_, fun x ⟨l, hl, hx⟩ => ?_⟩, by rw [List.length_map]; exact O.many⟩
  · obtain ⟨l, hl, rfl⟩ := List.mem_map.mp hx
    exact ⟨l, hl, .inl rfl⟩
  · have hs := O.sgn l hl
    have hlen := O.len l hl
    have hul : (upL l).length = l.length := by unfold upL; rw [List.length_map]
    have c1 : Clean (ofL l) := fun c hc => by rcases hs c hc with rfl | rfl | rfl <;> decide
    have c2 : Clean (ofL (upL l)) := fun c hc => by rcases upL_mem hs c hc with rfl | rfl | rfl <;> decide
    have e : Txt.lower x = ofL l := by
      rcases hx with rfl | rfl
      · exact low_ofL hs
      · exact low_up hs
    have l1 : (ofL l).cps.size = l.length := by simp [ofL]
    rw [e]
    refine ⟨?_, c1, ?_, by omega⟩
    · rcases hx with rfl | rfl
      · exact c1
      · exact c2
    · rcases hx with rfl | rfl
      · rw [ofL_len]; omega
      · rw [ofL_len, hul]; omega
  · have hs := O.sgn l hl
    have e : Txt.lower x = ofL l := by
      rcases hx with rfl | rfl
      · exact low_ofL hs
      · exact low_up hs
    rw [e]
    refine ⟨_, lookup_rot hl, ⟨_, hc l hl, .inl rfl⟩, ⟨_, hc l hl, .inr ?_⟩⟩
    exact up_ofL (O.sgn _ (hc l hl))
end
theorem ring_from {n : Int} {words : List Str} : ∀ i, ∀ r ∈ (rgAt n words i).1, ∃ x ∈ words, r = ringOf n x
  | 0, r, hr => by cases hr
  | i + 1, r, hr => by
    cases e : words[i]? with
    | none =>
      have e2 : rgAt n words (i + 1) = rgAt n words i := by unfold rgAt; rw [List.take_add_one, e]; simp
      rw [e2] at hr; exact ring_from i r hr
    | some x =>
      rw [rgAt_succ e] at hr
      unfold rgStep at hr
      split at hr
      · exact ring_from i r hr
      · rcases List.mem_append.mp hr with hr | hr
        · exact ring_from i r hr
        · rw [List.mem_singleton] at hr
          exact ⟨x, List.mem_of_getElem? e, hr⟩
theorem home_all : ([3, 4, 5, 6].all fun size => [1, 2, 3, 4].all fun sends => decide (homeC size sends ≤ size) && (homeC size sends * sends % size == 0 && (List.range (homeC size sends)).all fun t => t == 0 || t * sends % size != 0)) = true := by decide +kernel
theorem home_ok {size sends : Nat} (h3 : 3 ≤ size) (h6 : size ≤ 6) (hs : 1 ≤ sends) (hs4 : sends ≤ 4) : HomeOk size sends (homeC size sends) := by
  have hz : size ∈ [3, 4, 5, 6] := by simp; omega
  have hd : sends ∈ [1, 2, 3, 4] := by simp; omega
  have h := List.all_eq_true.mp (List.all_eq_true.mp home_all size hz) sends hd
  simp only [Bool.and_eq_true, decide_eq_true_eq, beq_iff_eq] at h
  obtain ⟨h1, h2, h4⟩ := h
  refine ⟨by unfold homeC; omega, h1, h2, fun t ht e => ?_⟩
  rcases Nat.lt_or_ge t (homeC size sends) with q | q
  · have := List.all_eq_true.mp h4 t (List.mem_range.mpr q)
    rw [e] at this
    simp at this
    omega
  · exact q
theorem num_ok {width home size : Nat} {cs : List Nat} {rings : List (List Str)} (hw : 6 ≤ width ∧ width ≤ 13) (h6 : size ≤ 6) (hh : 1 ≤ home) (hh6 : home ≤ 6) (h : numB width home size cs (rings.map (·.length)) = true) :
    NumOk width home (abN (2 ^ width) size) (blAt (2 ^ width) cs cs.length) rings (-(abN (2 ^ width) size / blAt (2 ^ width) cs cs.length : Nat)) (abN (2 ^ width) size / blAt (2 ^ width) cs cs.length % ((2 ^ width) ^ home - 1)) := by
  unfold numB at h
  have hab := abN_bits (width := width) (n := size) hw.2 h6
  generalize abN (2 ^ width) size = ab at *
  generalize blAt (2 ^ width) cs cs.length = bl at *
  simp only [Bool.and_eq_true, bne_iff_ne, ne_eq, beq_iff_eq] at h
  obtain ⟨h1, h2, h3⟩ := h
  have hbl : 0 < bl := by
    rcases Nat.eq_zero_or_pos bl with q | q
    · rw [q, Nat.mod_zero] at h2; exact absurd h2 h1
    · exact q
  have hble : bl ≤ ab := Nat.le_of_dvd (by omega) (Nat.dvd_of_mod_eq_zero h2)
  have big : 2 ^ 468 < 2 ^ 500 := Nat.pow_lt_pow_right (by decide) (by decide)
  have hq : ab / bl ≤ ab := Nat.div_le_self _ _
  have hX : 2 ≤ (2 ^ width) ^ home := by
    rw [← Nat.pow_mul]
    refine Nat.le_trans (by decide : 2 ≤ 2 ^ 1) (Nat.pow_le_pow_right (by decide) ?_)
    have : 6 * 1 ≤ width * home := Nat.mul_le_mul hw.1 hh
    omega
  have hX2 : (2 ^ width) ^ home ≤ 2 ^ 78 := by
    rw [← Nat.pow_mul]
    refine Nat.pow_le_pow_right (by decide) ?_
    have : width * home ≤ 13 * 6 := Nat.mul_le_mul hw.2 hh6
    omega
  have hb78 : 2 ^ 78 < 2 ^ 400 := Nat.pow_lt_pow_right (by decide) (by decide)
  have hdiv : (-(ab : Int)).fdiv (bl : Int) = -((ab / bl : Nat) : Int) := by
    have e : ab = bl * (ab / bl) := by have := Nat.div_add_mod ab bl; omega
    rw [Int.fdiv_eq_ediv_of_nonneg _ (Int.natCast_nonneg _)]
    have e2 : (-(ab : Int)) = -((ab / bl : Nat) : Int) * (bl : Int) := by
      conv => lhs; rw [e]
      rw [Int.natCast_mul, Int.neg_mul, Int.mul_comm]
    rw [e2, Int.mul_ediv_cancel _ (by omega)]
  have hmod : (-(ab : Int)).fmod (bl : Int) = 0 := by
    rw [Int.fmod_eq_emod_of_nonneg _ (Int.natCast_nonneg _)]
    have hd : ((bl : Nat) : Int) ∣ (ab : Int) := Int.natCast_dvd_natCast.mpr (Nat.dvd_of_mod_eq_zero h2)
    exact Int.emod_eq_zero_of_dvd (Int.dvd_neg.mpr hd)
  refine ⟨by omega, hbl, by omega, hmod, hdiv, by rw [Int.natAbs_neg, Int.natAbs_natCast]; omega, ?_, ?_, ?_⟩
  · have e : (1 - (((2 ^ width) ^ home : Nat) : Int)) = -(((2 ^ width) ^ home - 1 : Nat) : Int) := by omega
    rw [e, (idm_neg _ _).2, (idm_nat _ _).2]
  · have : ab / bl % ((2 ^ width) ^ home - 1) < (2 ^ width) ^ home - 1 := Nat.mod_lt _ (by omega)
    omega
  · rw [h3, told_eq]
-- the word
theorem kd_of (s : List Int) : kdI s = ofL (if szI s < 5 then [45, 97, 98] else [45, 97]) := by
  unfold kdI
  split
  · exact (by decide +kernel : ("-ab" : Str) = ofL [45, 97, 98])
  · exact (by decide +kernel : ("-a" : Str) = ofL [45, 97])
theorem word_of (s : List Int) : ∃ l : List Nat, wrI s = ofL l ∧ (l.length : Int) = szI s ∧ (∀ c ∈ l, c = 45 ∨ c = 97 ∨ c = 98) ∧ (5 ≤ szI s → 98 ∉ l) := by
  have sb := szI_bound s
  let kl : List Nat := if szI s < 5 then [45, 97, 98] else [45, 97]
  have hkl : kdI s = ofL kl := kd_of s
  let m : Nat → Nat := fun k => ((cellAt s (k + 1)).fmod (kdI s).length).toNat
  have hlen : 2 ≤ kl.length ∧ kl.length ≤ 3 := by show 2 ≤ (if szI s < 5 then [45, 97, 98] else [45, 97] : List Nat).length ∧ _; split <;> simp [kl, *]
  have hm : ∀ k, (cellAt s (k + 1)).fmod (kdI s).length = ((m k : Nat) : Int) ∧ m k < kl.length := fun k => by
    have e : (kdI s).length = kl.length := by rw [hkl, ofL_len]
    have hf := fm (a := cellAt s (k + 1)) (b := ((kdI s).length : Int)) (by omega)
    have e2 : (cellAt s (k + 1)).fmod (kdI s).length = ((m k : Nat) : Int) := (Int.toNat_of_nonneg hf.1).symm
    exact ⟨e2, by omega⟩
  have sg : ∀ k, sgI s k = ofL [kl.getD (m k) 0] := fun k => by
    unfold sgI
    rw [(hm k).1, hkl, item_ofL (hm k).2, getD_get (hm k).2]
  refine ⟨(List.range (szI s).toNat).map fun k => kl.getD (m k) 0, ?_, ?_, fun c hc => ?_, fun h5 hc => ?_⟩
  · unfold wrI
    have : (List.range (szI s).toNat).map (sgI s) = ((List.range (szI s).toNat).map fun k => [kl.getD (m k) 0]).map ofL := by
      rw [List.map_map]
      exact List.map_congr_left fun k _ => sg k
    rw [this, join0, flat_one]
  · rw [List.length_map, List.length_range]; omega
  · obtain ⟨k, _, rfl⟩ := List.mem_map.mp hc
    have hmem : kl.getD (m k) 0 ∈ kl := by rw [getD_get (hm k).2]; exact List.getElem_mem _
    have : ∀ c ∈ kl, c = 45 ∨ c = 97 ∨ c = 98 := by
      show ∀ c ∈ (if szI s < 5 then [45, 97, 98] else [45, 97] : List Nat), _
      split <;> simp
    exact this _ hmem
  · obtain ⟨k, _, e⟩ := List.mem_map.mp hc
    have hmem : kl.getD (m k) 0 ∈ kl := by rw [getD_get (hm k).2]; exact List.getElem_mem _
    rw [e] at hmem
    have : kl = [45, 97] := by show (if szI s < 5 then [45, 97, 98] else [45, 97] : List Nat) = _; rw [if_neg (by omega)]
    rw [this] at hmem
    simp at hmem
end Mine
end
end
section
set_option Elab.async false
noncomputable section
open PySem PySem.W PySem.Calls PyProof.Rows
set_option maxRecDepth 100000
set_option linter.unusedVariables false
set_option maxHeartbeats 1000000
set_option exponentiation.threshold 10
namespace Mine
theorem allC_mem {size a b c : Nat} (h : a + b + c = size) : (a, b, c) ∈ allC size := by
  unfold allC
  refine List.mem_flatMap.mpr ⟨a, List.mem_range.mpr (by omega), List.mem_map.mpr ⟨b, List.mem_range.mpr (by omega), ?_⟩⟩
  have : size - a - b = c := by omega
  rw [this]
theorem chk_all {a b c sends : Nat} (h3 : 3 ≤ a + b + c) (h6 : a + b + c ≤ 6) (hc : 5 ≤ a + b + c → c = 0) (hs : 1 ≤ sends) (hs4 : sends ≤ 4) (hss : sends ≤ a + b + c) : chk a b c sends = true := by
  have hz : a + b + c = 3 ∨ a + b + c = 4 ∨ a + b + c = 5 ∨ a + b + c = 6 := by omega
  have hd : sends = 1 ∨ sends = 2 ∨ sends = 3 ∨ sends = 4 := by omega
  rcases hz with z | z | z | z
  · have m := allC_mem z
    rcases hd with rfl | rfl | rfl | rfl
    · exact List.all_eq_true.mp chk3_1 _ m
    · exact List.all_eq_true.mp chk3_2 _ m
    · exact List.all_eq_true.mp chk3_3 _ m
    · omega
  · have m := allC_mem z
    rcases hd with rfl | rfl | rfl | rfl
    · exact List.all_eq_true.mp chk4_1 _ m
    · exact List.all_eq_true.mp chk4_2 _ m
    · exact List.all_eq_true.mp chk4_3 _ m
    · exact List.all_eq_true.mp chk4_4 _ m
  · have c0 := hc (by omega)
    subst c0
    have eb : b = 5 - a := by omega
    subst eb
    have m : a ∈ List.range 6 := List.mem_range.mpr (by omega)
    rcases hd with rfl | rfl | rfl | rfl
    · exact List.all_eq_true.mp chk5_1 _ m
    · exact List.all_eq_true.mp chk5_2 _ m
    · exact List.all_eq_true.mp chk5_3 _ m
    · exact List.all_eq_true.mp chk5_4 _ m
  · have c0 := hc (by omega)
    subst c0
    have eb : b = 6 - a := by omega
    subst eb
    have m : a ∈ List.range 7 := List.mem_range.mpr (by omega)
    rcases hd with rfl | rfl | rfl | rfl
    · exact List.all_eq_true.mp chk6_1 _ m
    · exact List.all_eq_true.mp chk6_2 _ m
    · exact List.all_eq_true.mp chk6_3 _ m
    · exact List.all_eq_true.mp chk6_4 _ m
structure ChkOk (W : List (List Nat)) (size sends home : Nat) (cs lens : List Nat) : Prop where
  w : WOk W size
  rot : ∀ l ∈ W, rotL sends l ∈ W
  ringl : ∀ k ∈ lens, 0 < k ∧ k ≤ home
  num : ∀ width, 6 ≤ width → width ≤ 13 → numB width home size cs lens = true
theorem chk_ok {a b c sends : Nat} (h : chk a b c sends = true) : ChkOk (WL a b c) (a + b + c) sends (homeC (a + b + c) sends) (csOf a b c) (lensOf sends (WL a b c)) := by
  unfold chk at h
  simp only [Bool.and_eq_true] at h
  obtain ⟨⟨h1, h2⟩, h3, h4, h5, h6, h7⟩ := h
  refine ⟨⟨fun l hl => ?_, fun l hl x hx => ?_, fun q => ?_, of_decide_eq_true h2, nodB_nodup h4⟩, fun l hl => ?_, fun k hk => ?_, fun width w1 w2 => ?_⟩
  · have := List.all_eq_true.mp h3 l hl
    rw [Bool.and_eq_true] at this
    exact eq_of_beq this.1
  · have := List.all_eq_true.mp h3 l hl
    rw [Bool.and_eq_true] at this
    have := List.all_eq_true.mp this.2 x hx
    simpa using this
  · rw [q] at h1; simp at h1
  · have := List.all_eq_true.mp h5 l hl
    exact List.contains_iff_mem.mp this
  · have := List.all_eq_true.mp h6 k hk
    rw [Bool.and_eq_true] at this
    exact ⟨of_decide_eq_true this.1, of_decide_eq_true this.2⟩
  · have := List.all_eq_true.mp h7 (width - 6) (List.mem_range.mpr (by omega))
    rw [show 6 + (width - 6) = width by omega] at this
    exact this
theorem en_of (i : Nat) (hi : i < 3) : ∃ e : List Nat, (e = [10] ∨ e = [13] ∨ e = [13, 10]) ∧ ([("\n" : Str), ("\r" : Str), ("\r\n" : Str)])[i]? = some (ofL e) := by
  have h1 : ("\n" : Str) = ofL [10] := by decide +kernel
  have h2 : ("\r" : Str) = ofL [13] := by decide +kernel
  have h3 : ("\r\n" : Str) = ofL [13, 10] := by decide +kernel
  rw [h1, h2, h3]
  match i, hi with
  | 0, _ => exact ⟨_, .inl rfl, rfl⟩
  | 1, _ => exact ⟨_, .inr (.inl rfl), rfl⟩
  | 2, _ => exact ⟨_, .inr (.inr rfl), rfl⟩
structure Plain (sc : List Int) (size sends width home : Nat) (en : Str) (ld : Int) (fo : Nat) : Prop where
  sz : szI sc = (size : Int)
  sd : sdI sc = (sends : Int)
  wd : wdI sc = (width : Int)
  w : 6 ≤ width ∧ width ≤ 13
  hen : ([("\n" : Str), ("\r" : Str), ("\r\n" : Str)])[((cellsOf sc).sum.fmod 3).toNat]? = some en
  law : LawOk size sends (wrI sc) en
  hhome : HomeOk size sends home
  cnt : CntOk (kdI sc) (wrI sc)
  rn : (ringsOf sends (wrI sc)).length ≤ 100
  rl : ∀ r ∈ ringsOf sends (wrI sc), 0 < r.length ∧ r.length ≤ home
  num : NumOk width home (abN (2 ^ width) size) (blAt (2 ^ width) (cntsOf (kdI sc) (wrI sc)) (cntsOf (kdI sc) (wrI sc)).length) (ringsOf sends (wrI sc)) ld fo
theorem plain_law (sc : List Int) : ∃ size sends width home en ld fo, Plain sc size sends width home en ld fo := by
  have sb := szI_bound sc
  have mb := mnI_bound sc
  have hmn : mnI sc ≤ szI sc := by unfold mnI; split <;> omega
  have sdb : 1 ≤ sdI sc ∧ sdI sc ≤ mnI sc := by
    unfold sdI
    have := fm (a := (cellAt sc 0).fdiv 4) (b := mnI sc) (by omega)
    omega
  have wdb : 6 ≤ wdI sc ∧ wdI sc ≤ 13 := by
    unfold wdI
    have := fm (a := (cellAt sc 0).fdiv 24) (b := 8) (by decide)
    omega
  obtain ⟨size, hsz⟩ := Int.eq_ofNat_of_zero_le (show 0 ≤ szI sc by omega)
  obtain ⟨sends, hsd⟩ := Int.eq_ofNat_of_zero_le (show 0 ≤ sdI sc by omega)
  obtain ⟨width, hwd⟩ := Int.eq_ofNat_of_zero_le (show 0 ≤ wdI sc by omega)
  obtain ⟨l, hl, hll, hls, hl5⟩ := word_of sc
  have hlen : l.length = size := by omega
  have hcnt := count_all hls
  obtain ⟨e, he, hen⟩ := en_of ((cellsOf sc).sum.fmod 3).toNat (by have := fm (a := (cellsOf sc).sum) (b := 3) (by decide); omega)
  have hc5 : 5 ≤ l.count 45 + l.count 97 + l.count 98 → l.count 98 = 0 := fun h => List.count_eq_zero.mpr (hl5 (by omega))
  have C := chk_ok (chk_all (a := l.count 45) (b := l.count 97) (c := l.count 98) (sends := sends) (by omega) (by omega) hc5 (by omega) (by omega) (by omega))
  rw [hcnt, hlen] at C
  have hW := words_ofL hls
  have O := C.w
  generalize hWd : WL (l.count 45) (l.count 97) (l.count 98) = W at *
  have h3 : 3 ≤ size := by omega
  have h6 : size ≤ 6 := by omega
  have hs1 : 1 ≤ sends := by omega
  have hs4 : sends ≤ 4 := by omega
  have hss : sends ≤ size := by omega
  have hH := home_ok h3 h6 hs1 hs4
  have hrings : ringsOf sends (ofL l) = (rgAt (sends : Int) (W.map ofL) (W.map ofL).length).1 := by unfold ringsOf; rw [hW]
  have hlens : (ringsOf sends (ofL l)).map (·.length) = lensOf sends W := by
    rw [hrings]
    exact lens_eq fun x hx => by have := O.len x hx; omega
  have H := fdh O h3 h6 hss C.rot
  have hvs : sentVs size sends (ofL l) (ofL e) = W.map fun x => ofL (rotL sends x) := by
    unfold sentVs
    rw [hW]
    exact sent_all O h3 h6 he hs1 hs4 hss
  have hrl : ∀ r ∈ ringsOf sends (ofL l), 0 < r.length ∧ r.length ≤ homeC size sends := fun r hr => C.ringl _ (by rw [← hlens]; exact List.mem_map.mpr ⟨r, hr, rfl⟩)
  have hkd := kd_of sc
  have hcs : cntsOf (kdI sc) (ofL l) = csOf (l.count 45) (l.count 97) (l.count 98) := by
    rw [hkd]
    unfold cntsOf csOf
    rw [ofL_cps, hcnt, hlen]
    by_cases q : szI sc < 5
    · rw [if_pos q, if_pos (by omega)]
      simp [count_ofL]
    · rw [if_neg q, if_neg (by omega)]
      simp [count_ofL]
  have hhl := hH.le
  refine ⟨size, sends, width, homeC size sends, ofL e, (-(abN (2 ^ width) size / blAt (2 ^ width) (csOf (l.count 45) (l.count 97) (l.count 98)) (csOf (l.count 45) (l.count 97) (l.count 98)).length : Nat)), (abN (2 ^ width) size / blAt (2 ^ width) (csOf (l.count 45) (l.count 97) (l.count 98)) (csOf (l.count 45) (l.count 97) (l.count 98)).length % ((2 ^ width) ^ homeC size sends - 1)), ⟨hsz, hsd, hwd, by omega, hen, ?_, hH, ?_, ?_, ?_, ?_⟩⟩
  · rw [hl]
    refine ⟨⟨h3, h6⟩, ⟨hs1, hs4⟩, by rw [ofL_len]; omega, by rw [hW, List.length_map]; exact O.many, fun x hx => ?_, by rw [hW]; exact sent_okW O h3 h6 he hs1 hs4, ?_, ?_, fun r hr => ?_, fun r hr x hx => ?_⟩
    · rw [hW] at hx
      exact (H.ring x hx).1
    · rw [hW, hvs]; exact filed_okW O h6 C.rot
    · rw [hW, hvs, hrings]; exact H.due
    · have := (hrl r hr).2; omega
    · rw [hrings] at hr
      obtain ⟨y, hy, rfl⟩ := ring_from _ r hr
      obtain ⟨j, _, rfl⟩ := List.mem_map.mp hx
      have hm := H.mem hy j
      obtain ⟨z, hz, ez⟩ := List.mem_map.mp hm
      rw [← ez, ofL_len, O.len z hz]; exact h6
  · rw [hl]
    refine ⟨?_, ?_, fun c hc => ?_⟩
    · rw [hkd]; split <;> decide +kernel
    · rw [hkd]; split <;> decide +kernel
    · rw [hcs] at hc
      unfold csOf at hc
      have h1 := List.count_le_length (a := 45) (l := l)
      have h2 := List.count_le_length (a := 97) (l := l)
      have h3 := List.count_le_length (a := 98) (l := l)
      split at hc <;> (simp only [List.mem_cons, List.not_mem_nil, or_false] at hc; omega)
  · rw [hl, hrings]
    have := (rg_len (fun x hx => (H.ring x hx).1) (W.map ofL).length).2
    have := O.many
    rw [List.length_map] at *
    omega
  · rw [hl]; exact hrl
  · rw [hl, hcs]
    refine num_ok ⟨by omega, by omega⟩ h6 hH.pos (by omega) ?_
    rw [hlens]
    exact C.num width (by omega) (by omega)
end Mine
end
end
section
set_option Elab.async false
noncomputable section
open PySem PySem.W PySem.Calls PyProof.Rows
set_option maxRecDepth 100000
set_option linter.unusedVariables false
set_option maxHeartbeats 1000000
set_option exponentiation.threshold 10
namespace Mine
section
variable {w : World} {B₀ : Heap} {mg mb : Str → Option Value} {pm cd doc : Value} {fa : Addr}
theorem law_ok {K : Frag} (B : Base B₀ mg mb) (F : LawF K B₀ mg mb) (I : IntF B₀ mg mb) (X : Def B₀ fa (fdLaw pm cd doc .none .none) (bodyOf (topStmt 26)) ["script"]) {sc : List Int} (hsc : sc.length ≤ 63) {s : Shared} {E : Value → Shared → Prop} (g : Sub B₀ s.heap) {sa : Addr} {svs : List Value} (hSa : B₀.IsList sa svs.toArray) (hI : IntsAre svs sc) :
    wpAny (model theProg w) callerA (call (.ref fa) [.ref sa]) (fun u s' => u = .bool true ∧ KB TT s s' ∧ TabOk s'.heap 58 54 posI1 qI1 ∧ TabOk s'.heap 65 61 posI2 qI2) E s := by
  have hA0 : callerA.handled = none := rfl
  have hd0 : callerA.depth = 301 := by decide +kernel
  have hu0 : callerA.units = 4 := rfl
  have hrl : recursionLimit = 1000 := rfl
  have hcl : cLine = 9900 := rfl
  refine call_st (mu := []) (ds := [.raw (.ref sa)]) B X (by omega) g (fun _ h => (nomatch h)) (.cons (.raw _) .nil) rfl rfl fun s₁ S E => ?_
  have hA : (callerA.deeper (callEnvC (fdLaw pm cd doc .none .none) s.heap.objs.size fa)).handled = none := hA0
  have hdep : (callerA.deeper (callEnvC (fdLaw pm cd doc .none .none) s.heap.objs.size fa)).depth = 302 := by show callerA.depth + 1 = _; omega
  have hun : (callerA.deeper (callEnvC (fdLaw pm cd doc .none .none) s.heap.objs.size fa)).units = 7 := by show callerA.units + 3 = _; omega
  have hbM := frame_out (mu := []) (fd := fdLaw pm cd doc .none .none) g (fun _ h => (nomatch h))
  generalize hL : s.heap.objs.size = L at *
  generalize hA' : callerA.deeper (callEnvC (fdLaw pm cd doc .none .none) L fa) = A' at *
  obtain ⟨size, sends, width, home, en, ld, fo, P⟩ := plain_law sc
  refine law_a B F.n hSa hI hsc hA S fun s₂ S₂ => ?_
  have S₂' : St B₀ s [] (callEnvC (fdLaw pm cd doc .none .none) L fa) (frameAt (fdLaw pm cd doc .none .none) L ++ []) (rhoB size sends width (kdI sc) (wrI sc) (cellsOf sc)) [] s₂ := by
    have := S₂
    unfold rhoA at this
    rw [P.sz, P.sd, P.wd] at this
    exact this
  have O := P.law
  refine law_b B F O (cellsOf_bound sc) (by rw [cellsOf_len]; omega) P.hen hA (by omega) (by omega) hbM S₂' fun s₃ S₃ => ?_
  refine law_c B F.n O.s3.2 O.sd.2 P.w P.hhome P.cnt hA S₃ fun s₄ S₄ => ?_
  have hle := P.hhome.le
  have h6 := O.s3.2
  refine law_d B F.n I P.w ⟨P.hhome.pos, by omega⟩ P.rn P.rl P.num hA (by omega) (by omega) hbM S₄ fun B₁ s₅ ρ' I1 hb1 S₅ => ?_
  have k : Sub B₁ s₅.heap := S₅.f.g
  exact ⟨rfl, S₅.k.mono (by simp), I1.t1.mono k, I1.t2.mono k⟩
end
end Mine
end
end
section
set_option Elab.async false
noncomputable section
open PySem PySem.W PySem.Calls PyProof.Rows
set_option autoImplicit false
set_option maxRecDepth 100000
set_option maxHeartbeats 4000000
set_option linter.unusedVariables false
namespace Mine
theorem fn_of {K : Frag} {a : Addr} {fd : FuncData} (h : (K.lookup a).map Obj.data = some (.func fd)) : ∃ oc od sl, K.lookup a = some ⟨oc, od, .func fd, sl⟩ := by
  obtain ⟨⟨oc, od, da, sl⟩, e, q⟩ := Option.map_eq_some_iff.mp h
  dsimp only at q; subst q
  exact ⟨oc, od, sl, e⟩
theorem seq_of {K : Frag} {a : Addr} {v : Array Value} {n : Nat} (h : (K.lookup a).map Obj.data = some (.seq v n)) : ∃ oc od n sl, K.lookup a = some ⟨oc, od, .seq v n, sl⟩ := by
  obtain ⟨⟨oc, od, da, sl⟩, e, q⟩ := Option.map_eq_some_iff.mp h
  dsimp only at q; subst q
  exact ⟨oc, od, _, sl, e⟩
theorem cells_fst : ∀ (names : List (Str × NameKind)) (n m : Nat) (acc acc' : List (Str × Addr)), acc.map (·.1) = acc'.map (·.1) → (cellsFrom n names acc).map (·.1) = (cellsFrom m names acc').map (·.1)
  | [], _, _, _, _, h => h
  | (x, k) :: r, n, m, acc, acc', h => by
    unfold cellsFrom
    split
    · exact cells_fst r _ _ _ _ (by rw [List.map_cons, List.map_cons, h])
    · exact cells_fst r _ _ _ _ h
theorem def_of {K : Frag} {h : Heap} (X : K.In h) {a : Addr} {fd : FuncData} {body : List Stmt} {names : List Str} (ho : (K.lookup a).map Obj.data = some (.func fd)) (hc : codeIn K fd.code fd.qualname = true) (hb : fd.body = .stmts body) (hclo : fd.closure = []) (hgl : fd.globals = mainGlobals) (hbl : fd.builtins = builtinsNs) (hco : fd.scope.isCoroutine = false) (hgen : fd.scope.isGenerator = false) (hk : fd.scope.kind = .function) (hn : names.Nodup)
    (hks : (names.all fun n => fd.scope.names.lookup n == some .local || fd.scope.names.lookup n == some .cell) = true) (hcl : ((cellsFrom 0 fd.scope.names []).map (·.1)).Nodup) : Def h a fd body names :=
  ⟨let ⟨oc, od, sl, e⟩ := fn_of ho; ⟨oc, od, sl, X _ _ e⟩, codeRec_of X hc, hb, hclo, hgl, hbl, hco, hgen, hk, hn, hks, fun n => by rw [cells_fst _ n 0 [] [] rfl]; exact hcl⟩
theorem fnAtB_of {K : Frag} {h : Heap} (X : K.In h) {a : Addr} {fd : FuncData} (ho : (K.lookup a).map Obj.data = some (.func fd)) (hc : codeIn K fd.code fd.qualname = true) : FnAtB h a fd :=
  ⟨let ⟨oc, od, sl, e⟩ := fn_of ho; ⟨oc, od, sl, X _ _ e⟩, codeRec_of X hc⟩
noncomputable def fieldAt (K : Frag) (a : Addr) (i : Nat) : Value := match K.lookup a with | some o => (match o.data with | .fields vs => vs.getD i .none | _ => .none) | none => .none
noncomputable def seqAt (K : Frag) (a : Addr) : Array Value := match K.lookup a with | some o => (match o.data with | .seq vs _ => vs | _ => #[]) | none => #[]
noncomputable def seqN (K : Frag) (a : Addr) : Nat := match K.lookup a with | some o => (match o.data with | .seq _ n => n | _ => 0) | none => 0
theorem glb_of {K : Frag} {h : Heap} {mg mb : Str → Option Value} (X : K.In h) (g : h.Ns mainGlobals mg) {x : Str} {v : Value} (e : nsIn K mainGlobals x = some (some v)) : Glb mg mb x v := .inl (mg_of X g e)
theorem glb_b {K : Frag} {h : Heap} {mg mb : Str → Option Value} (X : K.In h) (g : h.Ns mainGlobals mg) (hb : ∀ x : Str, x ≠ "__name__" → mb x = bootBuiltins x) {x : Str} {v : Value} (e : nsIn K mainGlobals x = some none) (hx : x ≠ "__name__") (hv : bootBuiltins x = some v) : Glb mg mb x v :=
  .inr ⟨mg_none_of X g e, (hb x hx).trans hv⟩
/-- what the row's heap holds, all that the proof asks of it -/
structure KF (K : Frag) : Prop where
  clsK : ClsK K
  clsI : ClsI K
  s128 : (K.lookup 128).map Obj.data = some (.seq #[.none] 0)
  s183 : (K.lookup 183).map Obj.data = some (.seq #[.none] 0)
  lim : nsIn K mainGlobals ("_DIV_LIMIT" : Str) = some (some (.int 4000 291))
  g45 : nsIn K mainGlobals ("_div2n1n" : Str) = some (some (.ref 45))
  g59 : nsIn K mainGlobals ("_int2digits" : Str) = some (some (.ref 59))
  g66 : nsIn K mainGlobals ("_digits2int" : Str) = some (some (.ref 66))
  g73 : nsIn K mainGlobals ("_divmod_pos" : Str) = some (some (.ref 73))
  g80 : nsIn K mainGlobals ("int_divmod" : Str) = some (some (.ref 80))
  g85 : nsIn K mainGlobals ("_twin_re_1" : Str) = some (some (.ref 85))
  g90 : nsIn K mainGlobals ("_twin_re_2" : Str) = some (some (.ref 90))
  crlf : nsIn K mainGlobals ("CRLF" : Str) = some (some (.str (Str.ofString "\r\n") 431))
  g97 : nsIn K mainGlobals ("quotedata" : Str) = some (some (.ref 97))
  g107 : nsIn K mainGlobals ("_name_disallowed_re" : Str) = some (some (.ref 107))
  g112 : nsIn K mainGlobals ("_value_disallowed_re" : Str) = some (some (.ref 112))
  g243 : nsIn K mainGlobals ("Headers" : Str) = some (some (.ref 243))
  g252 : nsIn K mainGlobals ("_law_words" : Str) = some (some (.ref 252))
  g257 : nsIn K mainGlobals ("_law_sent" : Str) = some (some (.ref 257))
  g264 : nsIn K mainGlobals ("_law_filed" : Str) = some (some (.ref 264))
  g271 : nsIn K mainGlobals ("_law_rings" : Str) = some (some (.ref 271))
  b_len : nsIn K mainGlobals ("len" : Str) = some none
  b_range : nsIn K mainGlobals ("range" : Str) = some none
  b_min : nsIn K mainGlobals ("min" : Str) = some none
  b_sum : nsIn K mainGlobals ("sum" : Str) = some none
  b_divmod : nsIn K mainGlobals ("divmod" : Str) = some none
  b_reversed : nsIn K mainGlobals ("reversed" : Str) = some none
  b_type : nsIn K mainGlobals ("type" : Str) = some none
  b_str : nsIn K mainGlobals ("str" : Str) = some none
  b_int : nsIn K mainGlobals ("int" : Str) = some none
  b_list : nsIn K mainGlobals ("list" : Str) = some none
  f45 : (K.lookup 45).map Obj.data = some (.func fdDiv)
  c45 : codeIn K fdDiv.code fdDiv.qualname = true
  f59 : (K.lookup 59).map Obj.data = some (.func fdI2d)
  c59 : codeIn K fdI2d.code fdI2d.qualname = true
  f66 : (K.lookup 66).map Obj.data = some (.func fdD2i)
  c66 : codeIn K fdD2i.code fdD2i.qualname = true
  f73 : (K.lookup 73).map Obj.data = some (.func fdDmp)
  c73 : codeIn K fdDmp.code fdDmp.qualname = true
  f80 : (K.lookup 80).map Obj.data = some (.func fdIdm)
  c80 : codeIn K fdIdm.code fdIdm.qualname = true
  f97 : (K.lookup 97).map Obj.data = some (.func fdQuote)
  c97 : codeIn K fdQuote.code fdQuote.qualname = true
  f252 : (K.lookup 252).map Obj.data = some (.func fdWords)
  c252 : codeIn K fdWords.code fdWords.qualname = true
  f271 : (K.lookup 271).map Obj.data = some (.func fdRings)
  c271 : codeIn K fdRings.code fdRings.qualname = true
  f257 : (K.lookup 257).map Obj.data = some (.func fdSent)
  c257 : codeIn K fdSent.code fdSent.qualname = true
  f264 : (K.lookup 264).map Obj.data = some (.func fdFiled)
  c264 : codeIn K fdFiled.code fdFiled.qualname = true
  f135 : (K.lookup 135).map Obj.data = some (.func fdInit)
  c135 : codeIn K fdInit.code fdInit.qualname = true
  f142 : (K.lookup 142).map Obj.data = some (.func fdConv)
  c142 : codeIn K fdConv.code fdConv.qualname = true
  f190 : (K.lookup 190).map Obj.data = some (.func fdGet)
  c190 : codeIn K fdGet.code fdGet.qualname = true
  f207 : (K.lookup 207).map Obj.data = some (.func fdItems)
  c207 : codeIn K fdItems.code fdItems.qualname = true
  f240 : (K.lookup 240).map Obj.data = some (.func fdAdd)
  c240 : codeIn K fdAdd.code fdAdd.qualname = true
  p85 : K.lookup 85 = some ⟨.type "re.Pattern", none, .fields #[fieldAt K 85 0, fieldAt K 85 1, .int 0 0, .none, .none, .ref 84, .int 0 0], #[]⟩
  q85 : K.lookup 84 = some ⟨.type "tuple", none, .seq (seqAt K 84) (seqN K 84), #[]⟩
  r85 : ((seqAt K 84).map PySem.Builtin.Re.reRawOf).map (·.toNat) = codeA
  p90 : K.lookup 90 = some ⟨.type "re.Pattern", none, .fields #[fieldAt K 90 0, fieldAt K 90 1, .int 0 0, .none, .none, .ref 89, .int 0 0], #[]⟩
  q90 : K.lookup 89 = some ⟨.type "tuple", none, .seq (seqAt K 89) (seqN K 89), #[]⟩
  r90 : ((seqAt K 89).map PySem.Builtin.Re.reRawOf).map (·.toNat) = codeB
  p107 : K.lookup 107 = some ⟨.type "re.Pattern", none, .fields #[fieldAt K 107 0, fieldAt K 107 1, .int 0 0, .none, .none, .ref 106, .int 0 0], #[]⟩
  q107 : K.lookup 106 = some ⟨.type "tuple", none, .seq (seqAt K 106) (seqN K 106), #[]⟩
  r107 : ((seqAt K 106).map PySem.Builtin.Re.reRawOf).map (·.toNat) = codeN
  p112 : K.lookup 112 = some ⟨.type "re.Pattern", none, .fields #[fieldAt K 112 0, fieldAt K 112 1, .int 0 0, .none, .none, .ref 111, .int 0 0], #[]⟩
  q112 : K.lookup 111 = some ⟨.type "tuple", none, .seq (seqAt K 111) (seqN K 111), #[]⟩
  r112 : ((seqAt K 111).map PySem.Builtin.Re.reRawOf).map (·.toNat) = codeV
  k58 : codeHdIn K 58 54 = true
  k65 : codeHdIn K 65 61 = true
theorem jb_len : bootBuiltins ("len" : Str) = some (.builtin "len") := by kernel_rfl
theorem jne_len : ("len" : Str) ≠ "__name__" := by decide +kernel
theorem jb_range : bootBuiltins ("range" : Str) = some (.type "range") := by kernel_rfl
theorem jne_range : ("range" : Str) ≠ "__name__" := by decide +kernel
theorem jb_min : bootBuiltins ("min" : Str) = some (.builtin "min") := by kernel_rfl
theorem jne_min : ("min" : Str) ≠ "__name__" := by decide +kernel
theorem jb_sum : bootBuiltins ("sum" : Str) = some (.builtin "sum") := by kernel_rfl
theorem jne_sum : ("sum" : Str) ≠ "__name__" := by decide +kernel
theorem jb_divmod : bootBuiltins ("divmod" : Str) = some (.builtin "divmod") := by kernel_rfl
theorem jne_divmod : ("divmod" : Str) ≠ "__name__" := by decide +kernel
theorem jb_reversed : bootBuiltins ("reversed" : Str) = some (.type "reversed") := by kernel_rfl
theorem jne_reversed : ("reversed" : Str) ≠ "__name__" := by decide +kernel
theorem jb_type : bootBuiltins ("type" : Str) = some (.type "type") := by kernel_rfl
theorem jne_type : ("type" : Str) ≠ "__name__" := by decide +kernel
theorem jb_str : bootBuiltins ("str" : Str) = some (.type "str") := by kernel_rfl
theorem jne_str : ("str" : Str) ≠ "__name__" := by decide +kernel
theorem jb_int : bootBuiltins ("int" : Str) = some (.type "int") := by kernel_rfl
theorem jne_int : ("int" : Str) ≠ "__name__" := by decide +kernel
theorem jb_list : bootBuiltins ("list" : Str) = some (.type "list") := by kernel_rfl
theorem jne_list : ("list" : Str) ≠ "__name__" := by decide +kernel
section
variable {K : Frag} {h : Heap} {mg mb : Str → Option Value} {q : Program} {loose : List Str} {mean : ExcName → Option Value}
theorem kf_at (X : K.In h) (k : KF K) : KF K := k
theorem jpat {a b : Addr} {v₀ v₁ : Value} {its : Array Value} {n : Nat} {code : Array Nat} (X : K.In h) (p : K.lookup a = some ⟨.type "re.Pattern", none, .fields #[v₀, v₁, .int 0 0, .none, .none, .ref b, .int 0 0], #[]⟩) (q : K.lookup b = some ⟨.type "tuple", none, .seq its n, #[]⟩) (r : (its.map PySem.Builtin.Re.reRawOf).map (·.toNat) = code) : Pat h a code := ⟨_, _, _, _, _, X _ _ p, X _ _ q, r⟩
theorem jd_45 (X : K.In h) (k : KF K) : Def h 45 fdDiv (bodyOf (topStmt 4)) ["a", "b", "n"] := def_of X k.f45 k.c45 rfl rfl rfl rfl rfl rfl rfl (by decide +kernel) (by decide +kernel) (by decide +kernel)
theorem jd_59 (X : K.In h) (k : KF K) : Def h 59 fdI2d (bodyOf (topStmt 6)) ["a", "n"] := def_of X k.f59 k.c59 rfl rfl rfl rfl rfl rfl rfl (by decide +kernel) (by decide +kernel) (by decide +kernel)
theorem jd_66 (X : K.In h) (k : KF K) : Def h 66 fdD2i (bodyOf (topStmt 7)) ["digits", "n"] := def_of X k.f66 k.c66 rfl rfl rfl rfl rfl rfl rfl (by decide +kernel) (by decide +kernel) (by decide +kernel)
theorem jd_73 (X : K.In h) (k : KF K) : Def h 73 fdDmp (bodyOf (topStmt 8)) ["a", "b"] := def_of X k.f73 k.c73 rfl rfl rfl rfl rfl rfl rfl (by decide +kernel) (by decide +kernel) (by decide +kernel)
theorem jd_80 (X : K.In h) (k : KF K) : Def h 80 fdIdm (bodyOf (topStmt 9)) ["a", "b"] := def_of X k.f80 k.c80 rfl rfl rfl rfl rfl rfl rfl (by decide +kernel) (by decide +kernel) (by decide +kernel)
theorem jd_97 (X : K.In h) (k : KF K) : Def h 97 fdQuote (bodyOf (topStmt 14)) ["data"] := def_of X k.f97 k.c97 rfl rfl rfl rfl rfl rfl rfl (by decide +kernel) (by decide +kernel) (by decide +kernel)
theorem jd_252 (X : K.In h) (k : KF K) : Def h 252 fdWords (bodyOf (topStmt 22)) ["word"] := def_of X k.f252 k.c252 rfl rfl rfl rfl rfl rfl rfl (by decide +kernel) (by decide +kernel) (by decide +kernel)
theorem jd_271 (X : K.In h) (k : KF K) : Def h 271 fdRings (bodyOf (topStmt 25)) ["words", "sends"] := def_of X k.f271 k.c271 rfl rfl rfl rfl rfl rfl rfl (by decide +kernel) (by decide +kernel) (by decide +kernel)
theorem jd_257 (X : K.In h) (k : KF K) : Def h 257 fdSent (bodyOf (topStmt 23)) ["words", "sends", "end"] := def_of X k.f257 k.c257 rfl rfl rfl rfl rfl rfl rfl (by decide +kernel) (by decide +kernel) (by decide +kernel)
theorem jd_264 (X : K.In h) (k : KF K) : Def h 264 fdFiled (bodyOf (topStmt 24)) ["words", "after"] := def_of X k.f264 k.c264 rfl rfl rfl rfl rfl rfl rfl (by decide +kernel) (by decide +kernel) (by decide +kernel)
theorem jn_tab {c P : Addr} {pos : Pos} {q : Str} (X : K.In h) (e : codeHdIn K c P = true) (t : h.get? P = some (tabObj #[])) : TabOk h c P pos q := ⟨codeHd_of_K X e, #[], t, .inl rfl⟩
theorem jn_base (T : Top q loose mean mg mb h) : Base h mg mb := ⟨T.g, T.b, T.nolimit, T.nodigits, T.builtins⟩
theorem jn_intF (T : Top q loose mean mg mb h) (X : K.In h) (k : KF K) (t54 : h.get? 54 = some (tabObj #[])) (t61 : h.get? 61 = some (tabObj #[])) : IntF h mg mb := by
  refine ⟨⟨291, glb_of X T.g k.lim⟩, glb_b X T.g T.builtins k.b_divmod jne_divmod jb_divmod, glb_b X T.g T.builtins k.b_reversed jne_reversed jb_reversed, glb_of X T.g k.g45, glb_of X T.g k.g59, glb_of X T.g k.g66, glb_of X T.g k.g73, glb_of X T.g k.g80,
    jd_45 X k, jd_59 X k, jd_66 X k, jd_73 X k, jd_80 X k, jn_tab X k.k58 t54, jn_tab X k.k65 t61, ?_⟩
  obtain ⟨bm, ob, h1, h2, h3, h4, h5, h6⟩ := T.bmain
  refine ⟨bm, ob, h1, h2, fun e => ?_, fun e => ?_, h3, h4, h5, h6⟩
  · obtain ⟨o, es, ep, e1, e2, _⟩ := T.g
    rw [e, e1] at h3; cases h3
    rw [e2] at h6; cases h6
  · simp only [TT, List.mem_cons, List.not_mem_nil, or_false] at e
    rcases e with e | e <;> subst e
    · rw [t54] at h3; cases h3; cases h4
    · rw [t61] at h3; cases h3; cases h4
theorem jn_fls (T : Top q loose mean mg mb h) (X : K.In h) (k : KF K) : Fls K h mg mb :=
  ⟨X, k.clsK, k.clsI, ⟨glb_b X T.g T.builtins k.b_type jne_type jb_type, glb_b X T.g T.builtins k.b_str jne_str jb_str, glb_of X T.g k.g107, glb_of X T.g k.g112, jpat X k.p107 k.q107 k.r107, jpat X k.p112 k.q112 k.r112, fnAtB_of X k.f142 k.c142⟩,
    ⟨glb_b X T.g T.builtins k.b_list jne_list jb_list, fnAtB_of X k.f135 k.c135, let ⟨oc, od, n, sl, e⟩ := seq_of k.s128; ⟨oc, od, n, sl, X _ _ e⟩⟩, glb_of X T.g k.g243, glb_b X T.g T.builtins k.b_int jne_int jb_int, fnAtB_of X k.f190 k.c190, let ⟨oc, od, n, sl, e⟩ := seq_of k.s183; ⟨oc, od, n, sl, X _ _ e⟩, fnAtB_of X k.f207 k.c207, fnAtB_of X k.f240 k.c240⟩
theorem jn_lawF (T : Top q loose mean mg mb h) (X : K.In h) (k : KF K) : LawF K h mg mb :=
  ⟨⟨⟨glb_b X T.g T.builtins k.b_len jne_len jb_len, glb_b X T.g T.builtins k.b_range jne_range jb_range⟩, glb_b X T.g T.builtins k.b_min jne_min jb_min, glb_b X T.g T.builtins k.b_sum jne_sum jb_sum⟩, jn_fls T X k,
    ⟨jd_97 X k, glb_of X T.g k.g85, glb_of X T.g k.g90, glb_of X T.g k.crlf, jpat X k.p85 k.q85 k.r85, jpat X k.p90 k.q90 k.r90⟩, glb_of X T.g k.g97, glb_of X T.g k.g252, glb_of X T.g k.g271, glb_of X T.g k.g257, glb_of X T.g k.g264, jd_252 X k, jd_271 X k, jd_257 X k, jd_264 X k⟩
end
theorem jn_old {s s' : Shared} (K : KB TT s s') (h1 : CodeHd s.heap 58 54) (h2 : CodeHd s.heap 65 61) (t54 : s.heap.get? 54 = some (tabObj #[])) (t61 : s.heap.get? 61 = some (tabObj #[])) (u1 : TabOk s'.heap 58 54 posI1 qI1) (u2 : TabOk s'.heap 65 61 posI2 qI2) : OldK s.heap s'.heap := by
  have one : ∀ {c P : Addr} {pos : Pos} {q : Str}, CodeHd s.heap c P → s.heap.get? P = some (tabObj #[]) → TabOk s'.heap c P pos q → ∀ o, s.heap.get? P = some o → asItWas s.heap s'.heap P o ∧ ∃ o', s'.heap.get? P = some o' := fun {c P pos q} hc ht u o e => by
    rw [ht] at e; cases e
    obtain ⟨ps, e2, _⟩ := u.tab
    exact ⟨.inr (.inl ⟨(hc.tab ht).isCodeTable, rfl, #[], ps, rfl, by rw [e2]; simp⟩), _, e2⟩
  have both : ∀ b o, s.heap.get? b = some o → asItWas s.heap s'.heap b o ∧ ∃ o', s'.heap.get? b = some o' := fun b o e => by
    by_cases q : b ∈ TT
    · simp only [TT, List.mem_cons, List.not_mem_nil, or_false] at q
      rcases q with q | q <;> subst q
      · exact one h1 t54 u1 o e
      · exact one h2 t61 u2 o e
    · have := K.sub b o q e
      exact ⟨.inl this, _, this⟩
  exact ⟨fun b o e => (both b o e).1, fun b o e => (both b o e).2⟩
end Mine
end
end
section
open PySem PySem.W PySem.Calls PyProof.Rows
set_option autoImplicit false
set_option maxRecDepth 100000
set_option maxHeartbeats 0
set_option linter.unusedVariables false
namespace Mine
set_option Elab.async false
noncomputable section
theorem final.tw8731573251788014547 : True := trivial
theorem final.tw10855050123940413320 : True := trivial
theorem final.tw1543641582297286357 : True := trivial
theorem final.tw13743964422395864366 : True := trivial
theorem final.tw15080971510701918577 : True := trivial
theorem final.tw12059012588361500591 : True := trivial
theorem final.tw8568633749400116076 : True := trivial
theorem final.tw15981178532920550917 : True := trivial
theorem final.tw13808806784388952406 : True := trivial
theorem final.tw1219376236543507551 : True := trivial
theorem final.tw3674315478545736259 : True := trivial
theorem final.tw18443530126623473481 : True := trivial
theorem final.tw201284711899435429 : True := trivial
theorem final.tw955534659494221573 : True := trivial
theorem final.tw1315242773965117982 : True := trivial
theorem final.tw9126048592727317795 : True := trivial
theorem final.tw7409487433590458397 : True := trivial
theorem final.tw14983176056467492890 : True := trivial
theorem final.tw9917796009047001856 : True := trivial
theorem final.tw14923001549059771250 : True := trivial
theorem final.tw657445137000173594 : True := trivial
theorem final.tw1807292130814547012 : True := trivial
theorem final.tw11409176808490423547 : True := trivial
theorem final.tw3936246226047674485 : True := trivial
theorem final.tw5002704269191557300 : True := trivial
theorem final.tw2321079126958112427 : True := trivial
theorem final.tw4233563099671912912 : True := trivial
theorem final.tw5415015098129623477 : True := trivial
theorem final.tw3931139125004063732 : True := trivial
theorem final.tw8494221389510286962 : True := trivial
theorem final.tw9983129932683646242 : True := trivial
theorem final.tw4528829327937641964 : True := trivial
theorem final.tw7590621624990511771 : True := trivial
theorem final.tw16540968434458866720 : True := trivial
theorem final.tw1329960898435082621 : True := trivial
theorem final.tw6141204725952769983 : True := trivial
theorem final.tw10280614528598747071 : True := trivial
theorem final.tw6255973331637653875 : True := trivial
theorem final.tw16787370370302139407 : True := trivial
theorem final.tw15028318858351353704 : True := trivial
theorem final.tw12852182725542459066 : True := trivial
theorem final.tw17901554314227848745 : True := trivial
theorem final.tw15438442293791725603 : True := trivial
theorem final.tw9027451854550268119 : True := trivial
theorem final.tw7421639907970033554 : True := trivial
theorem final.tw16600768930087418477 : True := trivial
theorem final.tw10200535332316725957 : True := trivial
theorem final.tw7847801984549298289 : True := trivial
theorem final.tw14592424073331965608 : True := trivial
theorem final.tw8502431511492158837 : True := trivial
theorem final.tw9788256078724583796 : True := trivial
theorem final.tw15875135524755104827 : True := trivial
theorem final.tw6109497399042551056 : True := trivial
theorem final.tw12900595733005133062 : True := trivial
theorem final.tw3549510782490179937 : True := trivial
theorem final.tw17808083240501529409 : True := trivial
theorem final.tw14621653926191277668 : True := trivial
theorem final.tw2554477461950841771 : True := trivial
theorem final.tw17333754714033110994 : True := trivial
theorem final.tw18425918669502787056 : True := trivial
theorem final.tw16674493107115136728 : True := trivial
theorem final.tw6408627558038916697 : True := trivial
theorem final.tw14750047601798303160 : True := trivial
theorem final.tw11908802298470853932 : True := trivial
theorem final.tw18445564810647810139 : True := trivial
theorem final.tw13653732453751996453 : True := trivial
theorem final.tw14187467039090886567 : True := trivial
theorem final.tw905902594052686745 : True := trivial
theorem final.tw3396835954446963980 : True := trivial
theorem final.tw7157494796241977561 : True := trivial
theorem final.tw15827805275511034588 : True := trivial
theorem final.tw3426866111578574435 : True := trivial
theorem final.tw15626734571503195110 : True := trivial
theorem final.tw16345452470020161006 : True := trivial
theorem final.tw13971017806962626768 : True := trivial
theorem final.tw4231731959701284245 : True := trivial
theorem final.tw5276009768488258565 : True := trivial
theorem final.tw11265026296916403565 : True := trivial
theorem final.tw13510496807988840059 : True := trivial
theorem final.tw10198918189601624818 : True := trivial
theorem final.tw7091158148372881714 : True := trivial
theorem final.tw1457224253908937477 : True := trivial
theorem final.tw13198125711504249433 : True := trivial
theorem final.tw12015204588933193610 : True := trivial
theorem final.tw2939943605827975321 : True := trivial
theorem final.tw7938526410212431067 : True := trivial
theorem final.tw5488104550771123751 : True := trivial
theorem final.tw18117750947301908491 : True := trivial
theorem final.tw11890712743417470050 : True := trivial
theorem final.tw8368315739137600775 : True := trivial
theorem final.tw2733928711496653908 : True := trivial
theorem final.tw1730075988153928496 : True := trivial
theorem final.tw6123123012830427051 : True := trivial
theorem final.tw13902647279651871334 : True := trivial
theorem final.tw9323295915950350609 : True := trivial
theorem final.tw15423543969872308761 : True := trivial
theorem final.tw12065736614108987081 : True := trivial
theorem final.tw3925039905068282176 : True := trivial
theorem final.tw11702953093837033213 : True := trivial
theorem final.tw10014367373013059922 : True := trivial
theorem final.tw11621525241791773345 : True := trivial
theorem final.tw13983057965684439315 : True := trivial
theorem final.tw12745456073798777040 : True := trivial
theorem final.tw10130028901845136418 : True := trivial
theorem final.tw15606041865945481840 : True := trivial
theorem final.tw17007526866515887295 : True := trivial
theorem final.tw18263178374938755917 : True := trivial
theorem final.tw8504249788394277908 : True := trivial
theorem final.tw11153157573971964366 : True := trivial
theorem final.tw12904224180886492615 : True := trivial
theorem final.tw10911831667320749451 : True := trivial
theorem final.tw1036930978727434209 : True := trivial
theorem final.tw7250161013048257652 : True := trivial
theorem final.tw18341050448917833586 : True := trivial
theorem final.tw9189427303333699170 : True := trivial
theorem final.tw8879119404054116266 : True := trivial
theorem final.tw17385785918144372039 : True := trivial
theorem final.tw11520401330096609620 : True := trivial
theorem final.tw7418138010301858417 : True := trivial
theorem final.tw7711765370386156740 : True := trivial
theorem final.tw2167434960708656226 : True := trivial
theorem final.tw16682726815438651451 : True := trivial
theorem final.tw17339996171863926278 : True := trivial
theorem final.tw14132208196262697092 : True := trivial
theorem final.tw11483661804922472206 : True := trivial
theorem final.tw2956332391171996519 : True := trivial
theorem final.tw6916487152113757813 : True := trivial
theorem final.tw6158865224554252413 : True := trivial
theorem final.tw13054706670509775260 : True := trivial
theorem final.tw320977072341628269 : True := trivial
theorem final.tw13070091137009082169 : True := trivial
theorem final.tw504096057067478995 : True := trivial
theorem final.tw12504466222242759415 : True := trivial
theorem final.tw9735239625325958699 : True := trivial
theorem final.tw11154759196510255760 : True := trivial
theorem final.tw4144371117990100604 : True := trivial
theorem final.tw10117257733199192330 : True := trivial
theorem final.tw2452859651255092558 : True := trivial
theorem final.tw14885865362977504382 : True := trivial
theorem final.tw8658419982449086391 : True := trivial
theorem final.tw3676795932780261704 : True := trivial
theorem final.tw1068451924353085083 : True := trivial
theorem final.tw6628137532042735977 : True := trivial
theorem final.tw5867727669913414804 : True := trivial
theorem final.tw13100173424529472689 : True := trivial
theorem final.tw1033934193855143035 : True := trivial
theorem final.tw3651465948642542242 : True := trivial
theorem final.tw11317307489459646166 : True := trivial
theorem final.tw12388972978486176875 : True := trivial
theorem final.tw9164177404319337304 : True := trivial
theorem final.tw3477953164056872788 : True := trivial
theorem final.tw2540090075640739688 : True := trivial
theorem final.tw17803981208475232141 : True := trivial
theorem final.tw10897546583699624312 : True := trivial
theorem final.tw18016225678640273874 : True := trivial
theorem final.tw7804466294446386063 : True := trivial
theorem final.tw3268801115549755241 : True := trivial
theorem final.tw6197677828616337916 : True := trivial
theorem final.tw14424997594739748307 : True := trivial
theorem final.tw6606378570343130875 : True := trivial
theorem final.tw3307739722061211303 : True := trivial
theorem final.tw9815051736475309569 : True := trivial
theorem final.tw6687585294528795790 : True := trivial
theorem final.tw5560218833007698151 : True := trivial
theorem final.tw807308427763349152 : True := trivial
theorem final.tw15076974432374580262 : True := trivial
theorem final.tw11134921181324909023 : True := trivial
theorem final.tw326406509992156494 : True := trivial
theorem final.tw7073346824454676033 : True := trivial
theorem final.tw12411140988998077859 : True := trivial
theorem final.tw7181538497367391721 : True := trivial
theorem final.tw10215562686513343379 : True := trivial
theorem final.tw11454308670320448749 : True := trivial
theorem final.tw13084178088124665500 : True := trivial
theorem final.tw3384860348465029522 : True := trivial
theorem final.tw8543058232313407451 : True := trivial
theorem final.tw7542923308735110344 : True := trivial
theorem final.tw13065280830581172821 : True := trivial
theorem final.tw3795370793634241106 : True := trivial
theorem final.tw15910529876821992365 : True := trivial
theorem final.tw1214877445308022672 : True := trivial
theorem final.tw15998246895451491800 : True := trivial
theorem final.tw7918635017951226886 : True := trivial
theorem final.tw12181345595061343083 : True := trivial
theorem final.tw11659793539358505850 : True := trivial
theorem final.tw13707858908888328168 : True := trivial
theorem final.tw1870604113638288131 : True := trivial
theorem final.tw15613107854449630783 : True := trivial
theorem final.tw16224197975931463073 : True := trivial
theorem final.tw17402489212504556138 : True := trivial
theorem final.tw17299782089999335445 : True := trivial
theorem final.tw2705205698923856409 : True := trivial
theorem final.tw9642543529027260233 : True := trivial
theorem final.tw6028682145041479106 : True := trivial
theorem final.tw13815886871995953870 : True := trivial
theorem final.tw11057646398824700998 : True := trivial
theorem final.tw16540662254994635887 : True := trivial
theorem final.tw10136838083808060652 : True := trivial
theorem final.tw1219496297465359945 : True := trivial
theorem final.tw5278758109447833798 : True := trivial
theorem final.tw4735494928415244778 : True := trivial
theorem final.tw14005376287791743597 : True := trivial
theorem final.tw8851945119839480084 : True := trivial
theorem final.tw12582848187128144534 : True := trivial
theorem final.tw17097001611073842407 : True := trivial
theorem final.tw11242742229927344348 : True := trivial
theorem final.tw14829698671138086527 : True := trivial
theorem final.tw12234275800261845075 : True := trivial
theorem final.tw6995599554730703397 : True := trivial
theorem final.tw954828845405437352 : True := trivial
theorem final.tw15461508515462595316 : True := trivial
theorem final.tw7833768916911220442 : True := trivial
theorem final.tw327804048879480523 : True := trivial
theorem final.tw2171061741386772384 : True := trivial
theorem final.tw16036176020941953499 : True := trivial
theorem final.tw12813686065312059881 : True := trivial
theorem final.tw10161721240196843986 : True := trivial
theorem final.tw7159592494110609706 : True := trivial
theorem final.tw4684833621079587295 : True := trivial
theorem final.tw12677480509375278066 : True := trivial
theorem final.tw8196545804004766000 : True := trivial
theorem final.tw8307515544417310667 : True := trivial
theorem final.tw8970192344042157281 : True := trivial
theorem final.tw17016280140038784127 : True := trivial
theorem final.tw14788335373525844972 : True := trivial
theorem final.tw12950576527920398833 : True := trivial
theorem final.tw8634380131411928257 : True := trivial
theorem final.tw10865263461131140414 : True := trivial
theorem final.tw16372371286962158275 : True := trivial
theorem final.tw1487031111166484796 : True := trivial
theorem final.tw7511173690161008258 : True := trivial
theorem final.tw17873030957218211813 : True := trivial
theorem final.tw6858699216773421007 : True := trivial
theorem final.tw9791805219608041743 : True := trivial
theorem final.tw18084663278096559284 : True := trivial
theorem final.tw14846775239822927482 : True := trivial
theorem final.tw13081219227266263784 : True := trivial
theorem final.tw9735044413244020883 : True := trivial
theorem final.tw17069250406732826158 : True := trivial
theorem final.tw8664426482510907556 : True := trivial
theorem final.tw1095318954706538441 : True := trivial
theorem final.tw17582917659403152680 : True := trivial
theorem final.tw13272435591910737277 : True := trivial
theorem final.tw5122700640694701749 : True := trivial
theorem final.tw10320693386718335046 : True := trivial
theorem final.tw14112978927293448718 : True := trivial
theorem final.tw4852174108514119891 : True := trivial
theorem final.tw15491824490430082641 : True := trivial
theorem final.tw7473592055311338256 : True := trivial
theorem final.tw12268144012071753613 : True := trivial
theorem final.tw5194651091858292416 : True := trivial
theorem final.tw11773714837947557637 : True := trivial
theorem final.tw11925769687901133866 : True := trivial
theorem final.tw675351110079153674 : True := trivial
theorem final.tw5413162507762818751 : True := trivial
theorem final.tw1323907996379488894 : True := trivial
theorem final.tw12326750588531125101 : True := trivial
theorem final.tw17603491640193073671 : True := trivial
theorem final.tw738721121300774409 : True := trivial
theorem final.tw4099958043619684154 : True := trivial
theorem final.tw5089064438980251878 : True := trivial
theorem final.tw7121461170854506682 : True := trivial
theorem final.tw15749131273807778147 : True := trivial
theorem final.tw15874777749913318607 : True := trivial
theorem final.tw15055759508504394698 : True := trivial
theorem final.tw18088646001538774332 : True := trivial
theorem final.tw15197400897401603280 : True := trivial
theorem final.tw14219477473750013154 : True := trivial
theorem final.tw7911462216747631511 : True := trivial
theorem final.tw14075180522251205000 : True := trivial
theorem final.tw10022720517303903229 : True := trivial
theorem final.tw8425546621259409239 : True := trivial
theorem final.tw12464643593025077343 : True := trivial
theorem final.tw15205743503277619710 : True := trivial
theorem final.tw9268682004109722360 : True := trivial
theorem final.tw10042153376342002085 : True := trivial
theorem final.tw4113752316972050158 : True := trivial
theorem final.tw2191496003128243387 : True := trivial
theorem final.tw15187764968134394116 : True := trivial
theorem final.tw8981932283943182763 : True := trivial
theorem final.tw4978577268980519545 : True := trivial
theorem final.tw14891174452418874599 : True := trivial
theorem final.tw12389126837187576176 : True := trivial
theorem final.tw12515764300223037709 : True := trivial
theorem final.tw12442840532546170135 : True := trivial
theorem final.tw7849055961647869931 : True := trivial
theorem final.tw6395861958570744575 : True := trivial
theorem final.tw12933409026105978606 : True := trivial
theorem final.tw13425406106291310988 : True := trivial
theorem final.tw16195603264935533082 : True := trivial
theorem final.tw13677162470074421662 : True := trivial
theorem final.tw13436894549356674435 : True := trivial
theorem final.tw14476525473978586552 : True := trivial
theorem final.tw11449768931154743443 : True := trivial
theorem final.tw9941049382910627851 : True := trivial
theorem final.tw819163456452780238 : True := trivial
theorem final.tw17104419979807603413 : True := trivial
theorem final.tw154085630076864448 : True := trivial
theorem final.tw12174733379589101671 : True := trivial
theorem final.tw15998802877172754485 : True := trivial
theorem final.tw3299347260448351985 : True := trivial
theorem final.tw10400498931376978561 : True := trivial
theorem final.tw12612486758627221125 : True := trivial
theorem final.tw5718155059003099199 : True := trivial
theorem final.tw8762036396747011047 : True := trivial
theorem final.tw15819236128794879702 : True := trivial
theorem final.tw16152952586699198599 : True := trivial
theorem final.tw1864316632754329368 : True := trivial
theorem final.tw15082610434975258740 : True := trivial
theorem final.tw7878490571031677159 : True := trivial
theorem final.tw8286449743198589910 : True := trivial
theorem final.tw4941518728927537897 : True := trivial
theorem final.tw16445440151621273314 : True := trivial
theorem final.tw10835571653514984676 : True := trivial
theorem final.tw6886013543448097282 : True := trivial
theorem final.tw17558434769859466046 : True := trivial
theorem final.tw977142313825115020 : True := trivial
theorem final.tw6090495070513234986 : True := trivial
theorem final.tw5401274072143798051 : True := trivial
theorem final.tw18333122673250038332 : True := trivial
theorem final.tw9885169743852063000 : True := trivial
theorem final.tw4979452831251284307 : True := trivial
theorem final.tw17951112728021898439 : True := trivial
theorem final.tw14177095816057071875 : True := trivial
theorem final.tw14688711452592111847 : True := trivial
theorem final.tw2351780836226153910 : True := trivial
theorem final.tw16208415720716193051 : True := trivial
theorem final.tw6627534881075276826 : True := trivial
theorem final.tw18309510468732470755 : True := trivial
theorem final.tw5513875924864653303 : True := trivial
theorem final.tw2117453587529596892 : True := trivial
theorem final.tw10405456934154409483 : True := trivial
theorem final.tw15694949149481459363 : True := trivial
theorem final.tw13028011595235079249 : True := trivial
theorem final.tw17906251651433466956 : True := trivial
theorem final.tw6754861164810569688 : True := trivial
theorem final.tw4011487493638068862 : True := trivial
theorem final.tw2792943816541026438 : True := trivial
theorem final.tw490598620533316918 : True := trivial
theorem final.tw4286641480978020330 : True := trivial
theorem final.tw17328873205859354982 : True := trivial
theorem final.tw2712558364757893831 : True := trivial
theorem final.tw10663953652200916614 : True := trivial
theorem final.tw1477146434381541279 : True := trivial
theorem final.tw18132660915919845555 : True := trivial
theorem final.tw10620928361779868618 : True := trivial
theorem final.tw610720381277184393 : True := trivial
theorem final.tw431324274429501512 : True := trivial
theorem final.tw16315930030254332300 : True := trivial
theorem final.tw11512294310007847537 : True := trivial
theorem final.tw16523900511320400833 : True := trivial
theorem final.tw2873996453669049586 : True := trivial
theorem final.tw6210968012304685554 : True := trivial
theorem final.tw17530486881934591621 : True := trivial
theorem final.tw13889069868411292622 : True := trivial
theorem final.tw5875583310089412846 : True := trivial
theorem final.tw11353945107730167574 : True := trivial
theorem final.tw11755607130337481677 : True := trivial
theorem final.tw16213496923453673951 : True := trivial
theorem final.tw9571212941379925581 : True := trivial
theorem final.tw293838362897950174 : True := trivial
theorem final.tw16711262688699148389 : True := trivial
theorem final.tw9847188841993603144 : True := trivial
theorem final.tw9185436724222690198 : True := trivial
theorem final.tw15598267126266478070 : True := trivial
theorem final.tw2330958909716424278 : True := trivial
theorem final.tw6317172055428654615 : True := trivial
theorem final.tw9816280823844487792 : True := trivial
theorem final.tw18175649675151953347 : True := trivial
theorem final.tw7009362083800865533 : True := trivial
theorem final.tw5991860299265673746 : True := trivial
theorem final.tw13447579337430037540 : True := trivial
theorem final.tw8335345555407405821 : True := trivial
theorem final.tw5892880772836789786 : True := trivial
theorem final.tw6914771820346824484 : True := trivial
theorem final.tw6549454890327631750 : True := trivial
theorem final.tw2005209594299486938 : True := trivial
theorem final.tw5341607661254023058 : True := trivial
theorem final.tw8387401590369894660 : True := trivial
theorem final.tw13496494142986767035 : True := trivial
theorem final.tw3801858048873832887 : True := trivial
theorem final.tw7843005481885371071 : True := trivial
theorem final.tw11794143875171351199 : True := trivial
theorem final.tw12787673743913026722 : True := trivial
theorem final.tw3502296581939353336 : True := trivial
theorem final.tw5389411940215200779 : True := trivial
theorem final.tw7750760841996414401 : True := trivial
theorem final.tw10519780935772106490 : True := trivial
theorem final.tw10753759007207720170 : True := trivial
theorem final.tw15739658634312021467 : True := trivial
theorem final.tw2666047259498594565 : True := trivial
theorem final.tw7895919473546186562 : True := trivial
theorem final.tw4477894701127151756 : True := trivial
theorem final.tw4312115456105261190 : True := trivial
theorem final.tw14838063319114388084 : True := trivial
theorem final.tw18026312885207256928 : True := trivial
set_option Elab.async true
theorem final : PySem.Challenge.rw_qu0060_01.Holds := by
  w_on
  o_law
  k_head
  case hw => w_witness2
  k_fill
  intro w s₀ s₁ mg mb G Y fa o pm cd doc dV kV ho hd' hcd hD hmg hg args vals as hpre hlay hrd hwl hlo
  have T := G.T
  have X := km_in_of Y
  have t54 := km_tabs_of Y 54 (by simp)
  have t61 := km_tabs_of Y 61 (by simp)
  have hdv : dV = .none := hD.pos.elim (fun h => h.2) fun h => absurd rfl h.1
  have hkv : kV = .none := hD.kw.elim (fun h => h.2) fun h => absurd rfl h.1
  subst hdv hkv
  have XD : Def s₁.heap fa (fdLaw pm cd doc .none .none) (bodyOf (topStmt 26)) ["script"] :=
    ⟨⟨o.cls, o.dict, o.slots, by rw [ho]; obtain ⟨oc, od, dt, sl⟩ := o; dsimp only at hd'; rw [hd']; rfl⟩, hcd, rfl, rfl, rfl, rfl, rfl, rfl, rfl, by decide +kernel,
      (show ((["script"] : List Str).all fun n => (scopeOf (topStmt 26)).names.lookup n == some .local || (scopeOf (topStmt 26)).names.lookup n == some .cell) = true by decide +kernel),
      fun n => by rw [cells_fst _ n 0 [] [] rfl]; exact (show ((cellsFrom 0 (scopeOf (topStmt 26)).names []).map (·.1)).Nodup by decide +kernel)⟩
  have k := kf_at X ⟨⟨by kernel_rfl, by kernel_rfl, by kernel_rfl, by kernel_rfl, by kernel_rfl, by kernel_rfl, by kernel_rfl, by kernel_rfl, by kernel_rfl, by kernel_rfl⟩,
    ⟨by kernel_rfl, by kernel_rfl, by kernel_rfl, by kernel_rfl, by kernel_rfl, any_some (p := ClassData.hasDict) (by kernel_rfl), by kernel_rfl, by kernel_rfl⟩,
    by kernel_rfl,
    by kernel_rfl,
    by kernel_rfl,
    by kernel_rfl,
    by kernel_rfl,
    by kernel_rfl,
    by kernel_rfl,
    by kernel_rfl,
    by kernel_rfl,
    by kernel_rfl,
    by kernel_rfl,
    by kernel_rfl,
    by kernel_rfl,
    by kernel_rfl,
    by kernel_rfl,
    by kernel_rfl,
    by kernel_rfl,
    by kernel_rfl,
    by kernel_rfl,
    by kernel_rfl,
    by kernel_rfl,
    by kernel_rfl,
    by kernel_rfl,
    by kernel_rfl,
    by kernel_rfl,
    by kernel_rfl,
    by kernel_rfl,
    by kernel_rfl,
    by kernel_rfl,
    by kernel_rfl,
    by kernel_rfl,
    by kernel_rfl,
    by kernel_rfl,
    by kernel_rfl,
    by kernel_rfl,
    by kernel_rfl,
    by kernel_rfl,
    by kernel_rfl,
    by kernel_rfl,
    by kernel_rfl,
    by kernel_rfl,
    by kernel_rfl,
    by kernel_rfl,
    by kernel_rfl,
    by kernel_rfl,
    by kernel_rfl,
    by kernel_rfl,
    by kernel_rfl,
    by kernel_rfl,
    by kernel_rfl,
    by kernel_rfl,
    by kernel_rfl,
    by kernel_rfl,
    by kernel_rfl,
    by kernel_rfl,
    by kernel_rfl,
    by kernel_rfl,
    by kernel_rfl,
    by kernel_rfl,
    by kernel_rfl,
    by kernel_rfl,
    by kernel_rfl,
    by kernel_rfl,
    by kernel_rfl,
    by kernel_rfl,
    by kernel_rfl,
    by kernel_rfl,
    by kernel_rfl,
    by kernel_rfl,
    by kernel_rfl,
    by kernel_rfl,
    by kernel_rfl,
    by kernel_rfl⟩
  have B := jn_base T
  have F := jn_lawF T X k
  have I := jn_intF T X k t54 t61
  have c1 := codeHd_of_K X k.k58
  have c2 := codeHd_of_K X k.k65
  clear k hD hmg hd' hcd ho G Y T X
  wrow_args hpre hlay hrd hwl hlo
  rename_i ns hs hlay0 hL1 hr1 hl2 w4 w3 la vs as2 hLs ra w1 r0 hI hr hlen htriv
  refine wpAny_mono (law_ok (w := w) B F I XD (sc := ns) (by omega) (fun _ _ e => e) hLs hI) (fun v s' ⟨e, K, u1, u2⟩ => ?_) fun _ _ x => x
  subst e
  have hos : s'.os = s₁.os := by obtain ⟨h, tk, rfl, _⟩ := K; rfl
  have hgn : s'.gens = s₁.gens := by obtain ⟨h, tk, rfl, _⟩ := id K; rfl
  refine ⟨.inl ⟨.bool true, .bool true, [], rfl, ?_, .bool true, ?_, fun _ => ⟨List.nodup_nil, fun _ h => (nomatch h)⟩⟩, jn_old K c1 c2 t54 t61 u1 u2, hos, ?_⟩
  · intro cls; rfl
  · first | kernel_rfl | with_unfolding_all rfl | (show (WShape.has [] (.bool true) .bool && WTm.holds [] (.eq .res (.lit (.bool true))) _) = true; simp [WShape.has, WTm.holds, WTm.value])
  · exact .of_eq (by rw [hgn]; exact hg)
end
end Mine
end
theorem PySem.Challenge.cw_qu0060_01_holds : PySem.Challenge.rw_qu0060_01.Holds :=
  Mine.final
