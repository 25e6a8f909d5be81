import PyProof.Rows.All
import Wide.All
import OpenK.AllK
import Wide.FinOn
import Lean
import PySem.Challenge.RW_wj0045_01
set_option Elab.async false
set_option linter.all false
section -- W1
open PySem PySem.W PyProof.Rows
set_option Elab.async false
set_option linter.all false
namespace Mine

/-- plain data of a value -/
inductive D where
  | none
  | bool (b : Bool)
  | int (i : Int)
  | str (s : List Nat)
  | bytes (b : List UInt8)
  | list (l : List D)
  | tup (l : List D)
  | range (a b c : Int)

noncomputable def D.flat : D → Bool
  | .list _ | .tup _ | .range .. => false
  | _ => true
noncomputable abbrev Kp (h h' : Heap) : Prop := ∀ b o, h.get? b = some o → h'.get? b = some o

mutual
inductive Rep (O : Addr → Prop) (h : Heap) : Value → D → Prop
  | none : Rep O h .none .none
  | bool (b : Bool) : Rep O h (.bool b) (.bool b)
  | int (i : Int) (t : Tok) : Rep O h (.int i t) (.int i)
  | str (s : List Nat) (t : Tok) : Rep O h (.str ⟨s.toArray⟩ t) (.str s)
  | bytes (b : List UInt8) (t : Tok) : Rep O h (.bytes b.toArray t) (.bytes b)
  | list {a : Addr} {vs : List Value} {ds : List D} (hl : h.IsList a vs.toArray) (ho : ¬ O a) (hr : RepL O h vs ds) : Rep O h (.ref a) (.list ds)
  | tup {a : Addr} {vs : List Value} {ds : List D} (hl : IsTup h a vs.toArray) (hr : RepL O h vs ds) : Rep O h (.ref a) (.tup ds)
  | range {r : Addr} {a b c : Int} {t u v : Tok} (hr : IsRange h r a b c t u v) : Rep O h (.ref r) (.range a b c)
inductive RepL (O : Addr → Prop) (h : Heap) : List Value → List D → Prop
  | nil : RepL O h [] []
  | cons {v : Value} {d : D} {vs : List Value} {ds : List D} (hd : Rep O h v d) (tl : RepL O h vs ds) : RepL O h (v :: vs) (d :: ds)
end

/-- what a change of the heap must leave -/
noncomputable def Foot0 (O : Addr → Prop) (b : Addr) (o : Obj) : Prop :=
  (∀ es ep, o.data ≠ .dict es ep) ∧ (∀ v, o.data ≠ .cell v) ∧ (o.cls = .type "list" → ¬ O b)
noncomputable abbrev Listy (o : Obj) : Prop := o.cls = .type "list" ∨ o.cls = .type "tuple" ∨ o.cls = .type "range"
noncomputable def Foot (O : Addr → Prop) (b : Addr) (o : Obj) : Prop := Foot0 O b o ∧ Listy o

mutual
theorem Rep.mono {O O' : Addr → Prop} {h h' : Heap} (hk : ∀ b o, h.get? b = some o → Foot O b o → h'.get? b = some o ∧ (o.cls = .type "list" → ¬ O' b)) :
    ∀ {v : Value} {d : D}, Rep O h v d → Rep O' h' v d
  | _, _, .none => .none
  | _, _, .bool b => .bool b
  | _, _, .int i t => .int i t
  | _, _, .str s t => .str s t
  | _, _, .bytes b t => .bytes b t
  | _, _, .list hl ho hr => by
    obtain ⟨o, e, hc, n, hd⟩ := hl
    obtain ⟨e', q⟩ := hk _ o e ⟨⟨by simp [hd], by simp [hd], fun _ => ho⟩, .inl hc⟩
    exact .list ⟨o, e', hc, n, hd⟩ (q hc) (RepL.mono hk hr)
  | _, _, .tup hl hr => by
    obtain ⟨o, e, hc, n, hd⟩ := hl
    obtain ⟨e', q⟩ := hk _ o e ⟨⟨by simp [hd], by simp [hd], by simp [hc]⟩, .inr (.inl hc)⟩
    exact .tup ⟨o, e', hc, n, hd⟩ (RepL.mono hk hr)
  | _, _, .range hr => by
    obtain ⟨e', q⟩ := hk _ _ hr ⟨⟨by simp, by simp, by simp⟩, .inr (.inr rfl)⟩
    exact .range e'
theorem RepL.mono {O O' : Addr → Prop} {h h' : Heap} (hk : ∀ b o, h.get? b = some o → Foot O b o → h'.get? b = some o ∧ (o.cls = .type "list" → ¬ O' b)) :
    ∀ {vs : List Value} {ds : List D}, RepL O h vs ds → RepL O' h' vs ds
  | _, _, .nil => .nil
  | _, _, .cons a b => .cons (Rep.mono hk a) (RepL.mono hk b)
end
theorem Rep.kp {O : Addr → Prop} {h h' : Heap} {v : Value} {d : D} (x : Rep O h v d) (k : Kp h h') : Rep O h' v d := x.mono fun b o e f => ⟨k b o e, f.1.2.2⟩
theorem RepL.kp {O : Addr → Prop} {h h' : Heap} {v : List Value} {d : List D} (x : RepL O h v d) (k : Kp h h') : RepL O h' v d := x.mono fun b o e f => ⟨k b o e, f.1.2.2⟩
theorem Rep.sub {O O' : Addr → Prop} {h : Heap} {v : Value} {d : D} (x : Rep O h v d) (k : ∀ a, O' a → O a) : Rep O' h v d := x.mono fun b o e f => ⟨e, fun c q => f.1.2.2 c (k b q)⟩
theorem RepL.sub {O O' : Addr → Prop} {h : Heap} {v : List Value} {d : List D} (x : RepL O h v d) (k : ∀ a, O' a → O a) : RepL O' h v d := x.mono fun b o e f => ⟨e, fun c q => f.1.2.2 c (k b q)⟩
theorem RepL.length {O : Addr → Prop} {h : Heap} : ∀ {vs : List Value} {ds : List D}, RepL O h vs ds → vs.length = ds.length
  | _, _, .nil => rfl
  | _, _, .cons _ b => congrArg Nat.succ b.length
theorem RepL.get {O : Addr → Prop} {h : Heap} : ∀ {vs : List Value} {ds : List D}, RepL O h vs ds → ∀ {i : Nat} {d : D}, ds[i]? = some d → ∃ v, vs[i]? = some v ∧ Rep O h v d
  | _, _, .nil, i, d, e => by simp at e
  | _, _, .cons a b, 0, d, e => by simp at e; subst e; exact ⟨_, rfl, a⟩
  | _, _, .cons a b, i + 1, d, e => by simpa using b.get (i := i) (by simpa using e)
theorem RepL.append {O : Addr → Prop} {h : Heap} : ∀ {vs : List Value} {ds : List D} {vs' : List Value} {ds' : List D}, RepL O h vs ds → RepL O h vs' ds' → RepL O h (vs ++ vs') (ds ++ ds')
  | _, _, _, _, .nil, y => y
  | _, _, _, _, .cons a b, y => .cons a (b.append y)
/-- a variable of the frame holds a value -/
noncomputable def VarIs (env : Env) (h : Heap) (x : Str) (v : Value) : Prop :=
  (env.kindOf x = some .local ∧ ∃ m, h.Ns env.locals m ∧ m x = some v) ∨ (env.kindOf x = some .cell ∧ ∃ a, env.cells.lookup x = some a ∧ h.IsCell a (some v))
theorem VarIs.kp {env : Env} {h h' : Heap} {x : Str} {v : Value} (X : VarIs env h x v) (k : Kp h h') : VarIs env h' x v :=
  X.imp (fun ⟨a, m, n, e⟩ => ⟨a, m, n.keeps k, e⟩) (fun ⟨a, c, l, e⟩ => ⟨a, c, l, e.keeps k⟩)

/-- an entry of the frame: a value, or a list that this frame alone holds -/
inductive Ent where
  | val (d : D)
  | own (a : Addr) (ds : List D)
  | app (a : Addr) (ds : List D)
noncomputable def EntIs (O : Addr → Prop) (h : Heap) (v : Value) : Ent → Prop
  | .val d => Rep O h v d
  | .own a ds => v = .ref a ∧ O a ∧ (∀ d ∈ ds, d.flat = true) ∧ ∃ vs, h.IsList a vs.toArray ∧ RepL O h vs ds
  | .app a ds => v = .ref a ∧ O a ∧ (∀ d ∈ ds, d.flat = true) ∧ ∃ vs, PlainL h a vs.toArray ∧ RepL O h vs ds
theorem EntIs.kp {O : Addr → Prop} {h h' : Heap} {v : Value} {e : Ent} (x : EntIs O h v e) (k : Kp h h') : EntIs O h' v e := by
  cases e with
  | val d => exact Rep.kp x k
  | own a ds => obtain ⟨e, o, f, vs, ⟨ob, hl, r⟩, hr⟩ := x; exact ⟨e, o, f, vs, ⟨ob, k _ _ hl, r⟩, hr.kp k⟩
  | app a ds => obtain ⟨e, o, f, vs, hl, hr⟩ := x; exact ⟨e, o, f, vs, hl.keeps k, hr.kp k⟩

structure FR (env : Env) (O : Addr → Prop) (ρ : List (Str × Ent)) (h : Heap) : Prop where
  kind : env.scope.kind = .function
  glob : env.globals = mainGlobals
  blt : env.builtins = builtinsNs
  vars : ∀ x e, (x, e) ∈ ρ → ∃ v, VarIs env h x v ∧ EntIs O h v e
  ob : ∀ a, O a → ∃ o, h.get? a = some o
theorem FR.kp {env : Env} {O : Addr → Prop} {ρ : List (Str × Ent)} {h h' : Heap} (F : FR env O ρ h) (k : Kp h h') : FR env O ρ h' :=
  ⟨F.kind, F.glob, F.blt, fun x e m => let ⟨v, a, b⟩ := F.vars x e m; ⟨v, a.kp k, b.kp k⟩, fun a o => let ⟨o, e⟩ := F.ob a o; ⟨o, k _ _ e⟩⟩

/-- the call's surroundings: the world, the objects that the top has laid, its names -/
structure Cx where
  w : World
  K : Frag
  mg : Str → Option Value
  mb : Str → Option Value
structure Top (c : Cx) (h : Heap) : Prop where
  g : h.Ns mainGlobals c.mg
  b : h.Ns builtinsNs c.mb
  lim : h.NoLimit
  k : c.K.In h
theorem Top.kp {c : Cx} {h h' : Heap} (T : Top c h) (k : Kp h h') : Top c h' := ⟨T.g.keeps k, T.b.keeps k, T.lim.keeps k, fun a o e => k a o (T.k a o e)⟩

/-- room for k more calls -/
structure AOk (k : Nat) (A : Around) : Prop where
  handled : A.handled = none
  depth : A.depth + k < recursionLimit
  units : A.units + 20 * k + 20 < cLine
theorem AOk.le {k j : Nat} {A : Around} (a : AOk k A) (h : j ≤ k) : AOk j A := ⟨a.handled, by have := a.depth; omega, by have := a.units; omega⟩

section
noncomputable abbrev MM (c : Cx) : Model := model PySem.Challenge.pw_wj0045_01 c.w
variable (c : Cx)
/-- the expression yields the data -/
structure EV (k : Nat) (env : Env) (O : Addr → Prop) (ρ : List (Str × Ent)) (e : Expr) (d : D) : Prop where
  run : ∀ (A : Around) (s : Shared) (Q : Value → Shared → Prop) (E : Value → Shared → Prop), AOk k A → Top c s.heap → FR env O ρ s.heap →
    (∀ v h' tk, Kp s.heap h' → Rep O h' v d → Q v { s with heap := h', toks := tk }) → wpAny (MM c) A (eval e env) Q E s
end
section
variable {c : Cx} {k : Nat} {env : Env} {O : Addr → Prop} {ρ : List (Str × Ent)}

theorem EV.var {x : Str} {p : Pos} {d : D} (hm : (x, Ent.val d) ∈ ρ) (hd : (x == ("__debug__" : Str)) = false := by decide +kernel) : EV c k env O ρ (.Name x p) d := by
  refine .mk ?_
  intro A s Q E a T F h
  obtain ⟨v, hv, he⟩ := F.vars _ _ hm
  refine wpAny_Name ?_ hd
  rcases hv with ⟨hl, m, hn, e⟩ | ⟨hl, c, hc, e⟩
  · exact wpAny_loadName_local F.kind hl hn e (h v s.heap s.toks (fun _ _ e => e) he)
  · exact wpAny_loadName_cell F.kind hl hc e (h v s.heap s.toks (fun _ _ e => e) he)
theorem EV.intC {i : Int} {n : Nat} {p : Pos} : EV c k env O ρ (.Constant (.int i) n p) (.int i) :=
  .mk fun A s Q E a T F h => wpAny_Constant_int (h _ s.heap _ (fun _ _ e => e) (.int ..))
theorem EV.noneC {n : Nat} {p : Pos} : EV c k env O ρ (.Constant .none n p) .none :=
  .mk fun A s Q E a T F h => wpAny_Constant_none (h _ s.heap s.toks (fun _ _ e => e) .none)
theorem EV.boolC {b : Bool} {n : Nat} {p : Pos} : EV c k env O ρ (.Constant (.bool b) n p) (.bool b) :=
  .mk fun A s Q E a T F h => wpAny_Constant_bool (h _ s.heap s.toks (fun _ _ e => e) (.bool b))
theorem EV.strC {x : Str} {n : Nat} {p : Pos} {l : List Nat} (hl : x = ⟨l.toArray⟩) : EV c k env O ρ (.Constant (.str x) n p) (.str l) :=
  .mk fun A s Q E a T F h => wpAny_Constant_str (h _ s.heap _ (fun _ _ e => e) (hl ▸ .str l _))
theorem EV.bytesC {x : List UInt8} {n : Nat} {p : Pos} : EV c k env O ρ (.Constant (.bytes x) n p) (.bytes x) :=
  .mk fun A s Q E a T F h => fun Γ p hΓ => h (.bytes x.toArray s.toks) s.heap _ (fun _ _ e => e) (.bytes ..)
theorem EV.bin {l r : Expr} {op : Operator} {p : Pos} {dl dr d : D} (hl : EV c k env O ρ l dl) (hr : EV c k env O ρ r dr)
    (hop : ∀ (A : Around) (s : Shared) (Q : Value → Shared → Prop) (E : Value → Shared → Prop) (vl vr : Value), AOk k A → Top c s.heap → (∀ a, O a → ∃ o, s.heap.get? a = some o) → Rep O s.heap vl dl → Rep O s.heap vr dr →
      (∀ v h' tk, Kp s.heap h' → Rep O h' v d → Q v { s with heap := h', toks := tk }) → wpAny (MM c) A (binaryOp op vl vr) Q E s) :
    EV c k env O ρ (.BinOp l op r p) d := by
  refine .mk ?_
  intro A s Q E a T F h
  refine wpAny_BinOp (hl.run A s _ E a T F fun vl h1 t1 k1 r1 => hr.run A _ _ E a (T.kp k1) (F.kp k1) fun vr h2 t2 k2 r2 => ?_)
  exact hop A _ Q E vl vr a ((T.kp k1).kp k2) ((F.kp k1).kp k2).ob (r1.kp k2) r2 fun v h' tk k3 r3 => h v h' tk (fun b o e => k3 b o (k2 b o (k1 b o e))) r3
end
end Mine
end
section -- W2
open PySem PySem.W PyProof.Rows PySem.Calls
set_option Elab.async false
set_option linter.all false
namespace Mine
section
variable {c : Cx} {k : Nat} {env : Env} {O : Addr → Prop} {ρ : List (Str × Ent)}
theorem Kp.refl {h : Heap} : Kp h h := fun _ _ e => e
theorem Kp.push {h : Heap} {o : Obj} : Kp h (h.push o) := fun _ _ e => Heap.get?_push_of_some _ e
theorem Kp.trans {a b c : Heap} (x : Kp a b) (y : Kp b c) : Kp a c := fun _ _ e => y _ _ (x _ _ e)
theorem new_not {h : Heap} (ob : ∀ a, O a → ∃ o, h.get? a = some o) : ¬ O h.objs.size := fun q => by
  obtain ⟨o, e⟩ := ob _ q
  exact Nat.lt_irrefl _ (Heap.lt_size e)
theorem rep_newList {h : Heap} {vs : List Value} {ds : List D} (ob : ∀ a, O a → ∃ o, h.get? a = some o) (r : RepL O h vs ds) :
    Rep O (h.push { cls := .type "list", data := .seq vs.toArray }) (.ref h.objs.size) (.list ds) :=
  .list ⟨_, Heap.get?_push_size _ rfl, rfl, _, rfl⟩ (new_not ob) (r.kp Kp.push)
theorem rep_newTup {h : Heap} {vs : List Value} {ds : List D} (r : RepL O h vs ds) :
    Rep O (h.push { cls := .type "tuple", data := .seq vs.toArray }) (.ref h.objs.size) (.tup ds) :=
  .tup ⟨_, Heap.get?_push_size _ rfl, rfl, _, rfl⟩ (r.kp Kp.push)

/-- integers -/
theorem EV.add_int {l r : Expr} {p : Pos} {a b : Int} (hl : EV c k env O ρ l (.int a)) (hr : EV c k env O ρ r (.int b)) : EV c k env O ρ (.BinOp l .Add r p) (.int (a + b)) :=
  EV.bin hl hr fun A s Q E vl vr _ _ _ x y h => by cases x; cases y; exact PyProof.Rows.add_int (h _ s.heap _ Kp.refl (.int ..))
theorem EV.sub_int {l r : Expr} {p : Pos} {a b : Int} (hl : EV c k env O ρ l (.int a)) (hr : EV c k env O ρ r (.int b)) : EV c k env O ρ (.BinOp l .Sub r p) (.int (a - b)) :=
  EV.bin hl hr fun A s Q E vl vr _ _ _ x y h => by cases x; cases y; exact PyProof.Rows.sub_int (h _ s.heap _ Kp.refl (.int ..))
theorem EV.mul_int {l r : Expr} {p : Pos} {a b : Int} (hl : EV c k env O ρ l (.int a)) (hr : EV c k env O ρ r (.int b)) (hm : IntMulOk a b) : EV c k env O ρ (.BinOp l .Mult r p) (.int (a * b)) :=
  EV.bin hl hr fun A s Q E vl vr _ _ _ x y h => by cases x; cases y; exact PyProof.Rows.mul_int (h _ s.heap _ Kp.refl (.int ..)) hm
theorem EV.div_int {l r : Expr} {p : Pos} {a b : Int} (hl : EV c k env O ρ l (.int a)) (hr : EV c k env O ρ r (.int b)) (hb : b ≠ 0) (hp : Builtin.divisionGoesByPylong a b = false) : EV c k env O ρ (.BinOp l .FloorDiv r p) (.int (a.fdiv b)) :=
  EV.bin hl hr fun A s Q E vl vr _ _ _ x y h => by cases x; cases y; exact floordiv_int hb (h _ s.heap _ Kp.refl (.int ..)) (.inl hp)
theorem EV.mod_int {l r : Expr} {p : Pos} {a b : Int} (hl : EV c k env O ρ l (.int a)) (hr : EV c k env O ρ r (.int b)) (hb : b ≠ 0) : EV c k env O ρ (.BinOp l .Mod r p) (.int (a.fmod b)) :=
  EV.bin hl hr fun A s Q E vl vr _ _ _ x y h => by cases x; cases y; exact mod_int' hb (h _ s.heap _ Kp.refl (.int ..))
/-- lists, bytes and texts put together -/
theorem EV.add_list {l r : Expr} {p : Pos} {a b : List D} (hl : EV c k env O ρ l (.list a)) (hr : EV c k env O ρ r (.list b)) (hz : a.length + b.length ≤ 16777216) : EV c k env O ρ (.BinOp l .Add r p) (.list (a ++ b)) :=
  EV.bin hl hr fun A s Q E vl vr _ _ ob x y h => by
    cases x with
    | list hl ho rl =>
    cases y with
    | list hb hob rr =>
    rename_i l vs b ws
    obtain ⟨⟨cls, dd, data, sl⟩, e1, hc, n, hd⟩ := id hl
    obtain ⟨⟨cls2, dd2, data2, sl2⟩, e2, hc2, n2, hd2⟩ := id hb
    simp only at hc hd hc2 hd2
    subst hc hd hc2 hd2
    have e : vs.toArray ++ ws.toArray = (vs ++ ws).toArray := by simp
    refine concat_meets ⟨_, e1, rfl⟩ ⟨_, e2, rfl⟩ noFill_list_add seq_list_add PySem.F.slot_list_add PySem.F.entry_list_add (PySem.F.args_list_add_2 _ _) (list_addW l b vs.toArray ws.toArray n n2 dd dd2 sl sl2 (by
      have := rl.length; have := rr.length; simp only [List.size_toArray]; rw [sizeLine_eq]; omega)) ⟨e1, e2, ?_⟩
    rw [e]
    exact h _ _ _ Kp.push (rep_newList ob (rl.append rr))
theorem EV.add_bytes {l r : Expr} {p : Pos} {a b : List UInt8} (hl : EV c k env O ρ l (.bytes a)) (hr : EV c k env O ρ r (.bytes b)) (hz : a.length + b.length ≤ 16777216) : EV c k env O ρ (.BinOp l .Add r p) (.bytes (a ++ b)) :=
  EV.bin hl hr fun A s Q E vl vr _ _ _ x y h => by
    cases x; cases y
    refine PySem.W.KBy.add_bytes (by simpa using hz) fun t' tk => ?_
    rw [show a.toArray ++ b.toArray = (a ++ b).toArray by simp]
    exact h _ s.heap _ Kp.refl (.bytes ..)
theorem str_app (a b : List Nat) : (⟨a.toArray⟩ : Str) ++ (⟨b.toArray⟩ : Str) = ⟨(a ++ b).toArray⟩ := by
  show (⟨a.toArray ++ b.toArray⟩ : Str) = _
  simp
theorem EV.add_str {l r : Expr} {p : Pos} {a b : List Nat} (hl : EV c k env O ρ l (.str a)) (hr : EV c k env O ρ r (.str b)) (hz : a.length + b.length ≤ 16777216) : EV c k env O ρ (.BinOp l .Add r p) (.str (a ++ b)) :=
  EV.bin hl hr fun A s Q E vl vr _ _ _ x y h => by
    cases x; cases y
    refine PyProof.Rows.add_str (fun t' tk => ?_) (by show a.toArray.size + b.toArray.size ≤ _; rw [sizeLine_eq]; simpa using hz)
    rw [str_app]
    exact h _ s.heap _ Kp.refl (.str ..)

/-- displays -/
structure EVs (c : Cx) (k : Nat) (env : Env) (O : Addr → Prop) (ρ : List (Str × Ent)) (pos : Pos) (es : List Expr) (ds : List D) : Prop where
  run : ∀ (A : Around) (s : Shared) (Q : List Value → Shared → Prop) (E : Value → Shared → Prop), AOk k A → Top c s.heap → FR env O ρ s.heap →
    (∀ vs h' tk, Kp s.heap h' → RepL O h' vs ds → Q vs { s with heap := h', toks := tk }) → wpAny (MM c) A (spliced (backTo pos (starEach es env))) Q E s
theorem EVs.nil {pos : Pos} : EVs c k env O ρ pos [] [] := .mk fun A s Q E a T F h => wpAny_items_nil (h [] s.heap s.toks Kp.refl .nil)
theorem EVs.cons {pos : Pos} {e : Expr} {es : List Expr} {d : D} {ds : List D} (he : EV c k env O ρ e d) (hes : EVs c k env O ρ pos es ds)
    (hs : starEach (e :: es) env = (false, eval e env) :: starEach es env := by rfl) : EVs c k env O ρ pos (e :: es) (d :: ds) := .mk fun A s Q E a T F h =>
  wpAny_items_cons (he.run A s _ E a T F fun v h1 t1 k1 r1 => hes.run A _ _ E a (T.kp k1) (F.kp k1) fun vs h2 t2 k2 r2 => h (v :: vs) h2 t2 (k1.trans k2) (.cons (r1.kp k2) r2)) hs
theorem EV.listD {pos : Pos} {es : List Expr} {ds : List D} (he : EVs c k env O ρ pos es ds) (hz : ds.length ≤ 16777216 := by decide) : EV c k env O ρ (.List es pos) (.list ds) := .mk fun A s Q E a T F h =>
  wpAny_List (he.run A s _ E a T F fun vs h1 t1 k1 r1 => ⟨by rw [r1.length, sizeLine_eq]; exact hz, h _ _ _ (k1.trans Kp.push) (rep_newList (F.kp k1).ob r1)⟩)
theorem EV.tupD {pos : Pos} {n : Nat} {es : List Expr} {ds : List D} (he : EVs c k env O ρ pos es ds) (hz : ds.length ≤ 16777216 := by decide) : EV c k env O ρ (.Tuple es n pos) (.tup ds) := .mk fun A s Q E a T F h =>
  wpAny_Tuple (he.run A s _ E a T F fun vs h1 t1 k1 r1 => ⟨by rw [r1.length, sizeLine_eq]; exact hz, h _ _ _ (k1.trans Kp.push) (rep_newTup r1)⟩)

/-- subscripts -/
theorem subscripted_is (slice : Expr) (o i : Value) : ∃ ops, subscripted slice false o i = operate ops (getItem o i) := by
  unfold subscripted
  split
  · exact ⟨_, rfl⟩
  · rename_i h; cases h
  · exact ⟨_, rfl⟩
theorem tail_is {A : Around} {s : Shared} {E : Value → Shared → Prop} {value slice : Expr} {o i : Value} {T id : String} {Q : Value → Shared → Prop} (hT : s.TypeIs o T)
    (hl : typeLookup (.type T) "__getitem__" = pure (some (.builtin id))) (h : wpAny (MM c) A (getItem o i) Q E s) : wpAny (MM c) A (subscriptTail value slice o i) Q E s :=
  let ⟨_, e⟩ := subscripted_is slice o i; tail_any hT hl h e
theorem EV.sub {value slice : Expr} {p : Pos} {dv di d : D} (hv : EV c k env O ρ value dv) (hi : EV c k env O ρ slice di)
    (ht : ∀ (A : Around) (s : Shared) (Q : Value → Shared → Prop) (E : Value → Shared → Prop) (vo vi : Value), AOk k A → Top c s.heap → (∀ a, O a → ∃ o, s.heap.get? a = some o) → Rep O s.heap vo dv → Rep O s.heap vi di →
      (∀ v h' tk, Kp s.heap h' → Rep O h' v d → Q v { s with heap := h', toks := tk }) → wpAny (MM c) A (subscriptTail value slice vo vi) Q E s) : EV c k env O ρ (.Subscript value slice p) d := by
  refine .mk ?_
  intro A s Q E a T F h
  refine Subscript_ (hv.run A s _ E a T F fun vl h1 t1 k1 r1 => hi.run A _ _ E a (T.kp k1) (F.kp k1) fun vr h2 t2 k2 r2 => ?_)
  exact ht A _ Q E vl vr a ((T.kp k1).kp k2) ((F.kp k1).kp k2).ob (r1.kp k2) r2 fun v h' tk k3 r3 => h v h' tk ((k1.trans k2).trans k3) r3
theorem EV.item {value slice : Expr} {p : Pos} {ds : List D} {i : Int} {d : D} (hv : EV c k env O ρ value (.list ds)) (hi : EV c k env O ρ slice (.int i))
    (h0 : 0 ≤ i) (hx : ds[i.toNat]? = some d) (hz : ds.length ≤ 16777216) : EV c k env O ρ (.Subscript value slice p) d :=
  EV.sub hv hi fun A s Q E vo vi a T ob x y h => by
    cases y
    cases x with
    | list hl ho rl =>
    obtain ⟨v, e, rv⟩ := rl.get hx
    have hlt : i.toNat < ds.length := by have := List.getElem?_eq_some_iff.mp hx; exact this.1
    exact tail_is hl.typeIs slot_list_getitem.lookup (wpAny_getItem_list hl h0 (by omega) (by simpa using e) (h v s.heap s.toks Kp.refl rv))
theorem EV.itemTup {value slice : Expr} {p : Pos} {ds : List D} {i : Int} {d : D} (hv : EV c k env O ρ value (.tup ds)) (hi : EV c k env O ρ slice (.int i))
    (h0 : 0 ≤ i) (hx : ds[i.toNat]? = some d) (hz : ds.length ≤ 16777216) : EV c k env O ρ (.Subscript value slice p) d :=
  EV.sub hv hi fun A s Q E vo vi a T ob x y h => by
    cases y
    cases x with
    | tup hl rl =>
    obtain ⟨v, e, rv⟩ := rl.get hx
    have hn := rl.length
    have hlt : i.toNat < ds.length := by have := List.getElem?_eq_some_iff.mp hx; exact this.1
    refine tail_is hl.typeIs slot_tuple_getitem.lookup (getItem_tuple hl (by omega) (by omega) (j := i.toNat) ?_ (by simpa using e) (h v s.heap s.toks Kp.refl rv))
    unfold seqIndex?
    have h2 : ¬ i < 0 := by omega
    have h3 : i < (ds.length : Int) := by omega
    simp [hn, h2, h0, h3]
theorem EV.itemBytes {value slice : Expr} {p : Pos} {b : List UInt8} {i : Int} (hv : EV c k env O ρ value (.bytes b)) (hi : EV c k env O ρ slice (.int i))
    (h0 : 0 ≤ i) (h1 : i < b.length) (hz : b.length ≤ 16777216) : EV c k env O ρ (.Subscript value slice p) (.int (b.getD i.toNat 0).toNat) :=
  EV.sub hv hi fun A s Q E vo vi a T ob x y h => by
    cases y; cases x
    exact tail_is (typeIs_bytes s _ _) FB.slot_bytes_getitem.lookup (getItem_bytes (by omega) h0 h1 (h _ s.heap _ Kp.refl (.int ..)))
end
end Mine
end
section -- W3
open PySem PySem.W PyProof.Rows PySem.Calls
set_option Elab.async false
set_option linter.all false
namespace Mine
section
variable {c : Cx} {k : Nat} {env : Env} {O : Addr → Prop} {ρ : List (Str × Ent)}

noncomputable abbrev OB (O : Addr → Prop) (h : Heap) : Prop := ∀ a, O a → ∃ o, h.get? a = some o
/-- what a call of a value yields -/
structure CALL (c : Cx) (k : Nat) (f : Value) (ds : List D) (d : D) : Prop where
  run : ∀ (A : Around) (s : Shared) (Q : Value → Shared → Prop) (E : Value → Shared → Prop) (O : Addr → Prop) (vs : List Value), AOk k A → Top c s.heap → OB O s.heap → RepL O s.heap vs ds →
    (∀ v h' tk, Kp s.heap h' → Rep O h' v d → Q v { s with heap := h', toks := tk }) → wpAny (MM c) A (call f vs) Q E s

theorem EV.globalName {x : Str} {p : Pos} {A : Around} {s : Shared} {Q : Value → Shared → Prop} {E : Value → Shared → Prop} {v : Value} (T : Top c s.heap) (F : FR env O ρ s.heap)
    (hx : env.kindOf x = some .globalImplicit) (hv : c.mg x = some v) (h : Q v s) (hd : (x == ("__debug__" : Str)) = false) : wpAny (MM c) A (eval (.Name x p) env) Q E s :=
  Name_function_global F.kind hx (loadGlobal_global (by rw [F.glob]; exact T.g) hv h) hd
theorem EV.builtinName {x : Str} {p : Pos} {A : Around} {s : Shared} {Q : Value → Shared → Prop} {E : Value → Shared → Prop} {v : Value} (T : Top c s.heap) (F : FR env O ρ s.heap)
    (hx : env.kindOf x = some .globalImplicit) (hm : c.mg x = none) (hv : c.mb x = some v) (h : Q v s) (hd : (x == ("__debug__" : Str)) = false) : wpAny (MM c) A (eval (.Name x p) env) Q E s :=
  Name_function_global F.kind hx (loadGlobal_builtin (by rw [F.glob]; exact T.g) hm (by rw [F.blt]; exact T.b) hv h) hd

theorem args_of {pos : Pos} {f : Value} {e : Expr} {es : List Expr} {ds : List D} (he : EVs c k env O ρ pos (e :: es) ds) (hs : starEach (e :: es) env = (false, eval e env) :: starEach es env)
    {A : Around} {s : Shared} {Q : Args → Shared → Prop} {E : Value → Shared → Prop} (a : AOk k A) (T : Top c s.heap) (F : FR env O ρ s.heap)
    (h : ∀ vs h' tk, Kp s.heap h' → RepL O h' vs ds → Q ⟨vs, []⟩ { s with heap := h', toks := tk }) : wpAny (MM c) A (evalArgs f true (backTo pos (starEach (e :: es) env)) []) Q E s := by
  have z := he.run A s (fun vs s' => Q ⟨vs, []⟩ s') E a T F h
  rw [hs] at z ⊢
  exact evalArgs_plain z

/-- a call of a def of the text -/
theorem EV.call {f : Str} {p pos : Pos} {e : Expr} {es : List Expr} {ds : List D} {d : D} {a : Addr} {o : Obj} {fd : FuncData} (hargs : EVs c k env O ρ pos (e :: es) ds)
    (hf : CALL c k (.ref a) ds d) (hm : c.mg f = some (.ref a)) (hK : c.K.lookup a = some o) (hfd : o.data = .func fd) (hx : env.kindOf f = some .globalImplicit)
    (hd : (f == ("__debug__" : Str)) = false := by decide +kernel)
    (hs : starEach (e :: es) env = (false, eval e env) :: starEach es env := by rfl)
    (he : eval (.Call (.Name f p) (e :: es) [] pos) env = (do callWith pos (← eval (.Name f p) env) [] (backTo pos (starEach (e :: es) env)) (backToKw pos (keywordEach [] env))) := by rfl) :
    EV c k env O ρ (.Call (.Name f p) (e :: es) [] pos) d := by
  refine .mk ?_
  intro A s Q E ao T F h
  refine Call_ (EV.globalName T F hx hm ?_ hd) he
  refine callWith_function (o := o) (fd := fd) (args_of hargs hs ao T F fun vs h1 t1 k1 r1 => ⟨⟨(T.kp k1).k _ _ hK, hfd⟩, ?_⟩)
  exact hf.run A _ Q E O vs ao (T.kp k1) (F.kp k1).ob r1 fun v h' tk k2 r2 => h v h' tk (k1.trans k2) r2
/-- a call of a built-in function -/
theorem EV.callB {f : Str} {p pos : Pos} {e : Expr} {es : List Expr} {ds : List D} {d : D} {id : String} (hargs : EVs c k env O ρ pos (e :: es) ds)
    (hf : CALL c k (.builtin id) ds d) (hm : c.mg f = none) (hb : c.mb f = some (.builtin id)) (hx : env.kindOf f = some .globalImplicit)
    (hd : (f == ("__debug__" : Str)) = false := by decide +kernel)
    (hs : starEach (e :: es) env = (false, eval e env) :: starEach es env := by rfl) (hpl : (backTo pos (starEach (e :: es) env)).any (·.1) = false := by rfl)
    (he : eval (.Call (.Name f p) (e :: es) [] pos) env = (do callWith pos (← eval (.Name f p) env) [] (backTo pos (starEach (e :: es) env)) (backToKw pos (keywordEach [] env))) := by rfl) :
    EV c k env O ρ (.Call (.Name f p) (e :: es) [] pos) d := by
  refine .mk ?_
  intro A s Q E ao T F h
  refine Call_ (EV.builtinName T F hx hm hb ?_ hd) he
  refine callWith_builtin hpl (args_of hargs hs ao T F fun vs h1 t1 k1 r1 => ?_)
  exact hf.run A _ Q E O vs ao (T.kp k1) (F.kp k1).ob r1 fun v h' tk k2 r2 => h v h' tk (k1.trans k2) r2
/-- a call of a built-in type -/
theorem EV.callT {f : Str} {p pos : Pos} {e : Expr} {es : List Expr} {ds : List D} {d : D} {id : String} (hargs : EVs c k env O ρ pos (e :: es) ds)
    (hf : CALL c k (.type id) ds d) (hm : c.mg f = none) (hb : c.mb f = some (.type id)) (hx : env.kindOf f = some .globalImplicit)
    (hd : (f == ("__debug__" : Str)) = false := by decide +kernel)
    (hs : starEach (e :: es) env = (false, eval e env) :: starEach es env := by rfl) (hpl : (backTo pos (starEach (e :: es) env)).any (·.1) = false := by rfl)
    (he : eval (.Call (.Name f p) (e :: es) [] pos) env = (do callWith pos (← eval (.Name f p) env) [] (backTo pos (starEach (e :: es) env)) (backToKw pos (keywordEach [] env))) := by rfl) :
    EV c k env O ρ (.Call (.Name f p) (e :: es) [] pos) d := by
  refine .mk ?_
  intro A s Q E ao T F h
  refine Call_ (EV.builtinName T F hx hm hb ?_ hd) he
  refine PyProof.Rows.callWith_type hpl (args_of hargs hs ao T F fun vs h1 t1 k1 r1 => ?_)
  exact hf.run A _ Q E O vs ao (T.kp k1) (F.kp k1).ob r1 fun v h' tk k2 r2 => h v h' tk (k1.trans k2) r2

/-- built-ins -/
theorem CALL.chr {i : Nat} (hi : i ≤ 0x10FFFF) : CALL c k (.builtin "chr") [.int i] (.str [i]) := by
  refine .mk ?_
  intro A s Q E O vs ao T ob r h
  cases r with | cons r1 r2 =>
  cases r2
  cases r1
  refine P.chr_of_int (by simp; omega) ?_
  exact h _ s.heap _ Kp.refl (.str [i] _)
theorem CALL.ord {i : Nat} : CALL c k (.builtin "ord") [.str [i]] (.int i) := by
  refine .mk ?_
  intro A s Q E O vs ao T ob r h
  cases r with | cons r1 r2 =>
  cases r2
  cases r1
  exact P.ord_of_char (h _ s.heap _ Kp.refl (.int ..))
theorem CALL.abs {i : Int} : CALL c k (.builtin "abs") [.int i] (.int (if i < 0 then -i else i)) := by
  refine .mk ?_
  intro A s Q E O vs ao T ob r h
  cases r with | cons r1 r2 =>
  cases r2
  cases r1
  exact call_abs_int fun u tk => h _ s.heap _ Kp.refl (.int ..)
theorem CALL.len {ds : List D} (hz : ds.length ≤ 16777216) : CALL c k (.builtin "len") [.list ds] (.int ds.length) := by
  refine .mk ?_
  intro A s Q E O vs ao T ob r h
  cases r with | cons r1 r2 =>
  cases r2
  cases r1 with | list hl ho rl =>
  have hn := rl.length
  refine call_len_list hl (by simp only [List.size_toArray]; omega) ?_
  simp only [List.size_toArray, hn]
  exact h _ s.heap _ Kp.refl (.int ..)
theorem CALL.range1 {n : Int} : CALL c k (.type "range") [.int n] (.range 0 n 1) := by
  refine .mk ?_
  intro A s Q E O vs ao T ob r h
  cases r with | cons r1 r2 =>
  cases r2
  cases r1
  exact call_range_1 (h _ _ _ Kp.push (.range (Heap.get?_push_size _ rfl)))
theorem CALL.range3 {a b n : Int} (hn : n ≠ 0) (hp : Builtin.divisionGoesByPylong (b - a) n = false) : CALL c k (.type "range") [.int a, .int b, .int n] (.range a b n) := by
  refine .mk ?_
  intro A s Q E O vs ao T ob r h
  cases r with | cons r1 r2 =>
  cases r2 with | cons r2 r3 =>
  cases r3 with | cons r3 r4 =>
  cases r4; cases r1; cases r2; cases r3
  exact call_range_3 hn (h _ _ _ Kp.push (.range (Heap.get?_push_size _ rfl))) (.inl hp)
theorem CALL.divmod {a b : Int} (hb : b ≠ 0) (hp : Builtin.divisionGoesByPylong a b = false) : CALL c k (.builtin "divmod") [.int a, .int b] (.tup [.int (a.fdiv b), .int (a.fmod b)]) := by
  refine .mk ?_
  intro A s Q E O vs ao T ob r h
  cases r with | cons r1 r2 =>
  cases r2 with | cons r2 r3 =>
  cases r3; cases r1; cases r2
  exact divmod_int hb (h _ _ _ Kp.push (rep_newTup (.cons (.int ..) (.cons (.int ..) .nil)))) (.inl hp)
end
end Mine
end
section -- W4
open PySem PySem.W PyProof.Rows PySem.Calls
set_option Elab.async false
set_option linter.all false
namespace Mine
/-- a value that is no object, and its data -/
inductive Sc : Value → D → Prop
  | none : Sc .none .none
  | bool (b : Bool) : Sc (.bool b) (.bool b)
  | int (i : Int) (t : Tok) : Sc (.int i t) (.int i)
  | str (s : List Nat) (t : Tok) : Sc (.str ⟨s.toArray⟩ t) (.str s)
  | bytes (b : List UInt8) (t : Tok) : Sc (.bytes b.toArray t) (.bytes b)
theorem Sc.rep {v : Value} {d : D} (x : Sc v d) (O : Addr → Prop) (h : Heap) : Rep O h v d := by
  cases x
  · exact .none
  · exact .bool _
  · exact .int ..
  · exact .str ..
  · exact .bytes ..
theorem Rep.sc {O : Addr → Prop} {h : Heap} {v : Value} {d : D} (x : Rep O h v d) (hf : d.flat = true) : Sc v d := by
  cases x with
  | none => exact .none
  | bool => exact .bool _
  | int => exact .int ..
  | str => exact .str ..
  | bytes => exact .bytes ..
  | list => cases hf
  | tup => cases hf
  | range => cases hf
theorem Sc.inj {v : Value} {d d' : D} (x : Sc v d) (y : Sc v d') : d = d' := by
  cases x with
  | none => cases y; rfl
  | bool => cases y; rfl
  | int => cases y; rfl
  | str s t =>
    generalize e : (Value.str ⟨s.toArray⟩ t) = v at y
    cases y <;> injection e
    rename_i s' t' e1 e2
    injection e1 with e1
    rw [show s = s' by simpa using congrArg Array.toList e1]
  | bytes s t =>
    generalize e : (Value.bytes s.toArray t) = v at y
    cases y <;> injection e
    rename_i s' t' e1 e2
    rw [show s = s' by simpa using congrArg Array.toList e1]
theorem RepL.scs {O : Addr → Prop} {h : Heap} : ∀ {vs : List Value} {ds : List D}, RepL O h vs ds → (∀ d ∈ ds, d.flat = true) → ∀ {i : Nat} {v : Value}, vs[i]? = some v → ∃ d, ds[i]? = some d ∧ Sc v d
  | _, _, .nil, _, i, v, e => by simp at e
  | _, _, .cons a b, hf, 0, v, e => by simp at e; subst e; exact ⟨_, rfl, a.sc (hf _ List.mem_cons_self)⟩
  | _, _, .cons a b, hf, i + 1, v, e => by simpa using b.scs (fun d m => hf d (List.mem_cons_of_mem _ m)) (i := i) (by simpa using e)

section
variable {c : Cx} {k : Nat} {env : Env} {O : Addr → Prop} {ρ : List (Str × Ent)}

/-- no frame, no list -/
noncomputable abbrev Off (o : Obj) : Prop := ¬ Listy o ∧ (∀ es ep, o.data ≠ .dict es ep) ∧ (∀ v, o.data ≠ .cell v)
/-- the data is walked item by item -/
structure ITER (c : Cx) (k : Nat) (O : Addr → Prop) (dv : D) (ds : List D) : Prop where
  run : ∀ (A : Around) (s : Shared) (Q : Value → Shared → Prop) (E : Value → Shared → Prop) (v : Value), AOk k A → Top c s.heap → OB O s.heap → Rep O s.heap v dv →
    (∀ I fp wr P St h' tk, Kp s.heap h' → Walks PySem.Challenge.pw_wj0045_01 c.w A I fp wr ds.length P St → St 0 h' → (∀ b ∈ fp, ∃ o, h'.get? b = some o ∧ Foot0 O b o) → (∀ b ∈ wr, s.heap.objs.size ≤ b) → (∀ i h, St i h → ∀ b ∈ wr, ∃ o, h.get? b = some o ∧ Off o) →
      (∀ i v, P i v → ∃ d, ds[i]? = some d ∧ Sc v d) → Q (.ref I) { s with heap := h', toks := tk }) → wpAny (MM c) A (pyIter v) Q E s

theorem ITER.list {ds : List D} (hf : ∀ d ∈ ds, d.flat = true) : ITER c k O (.list ds) ds := by
  refine .mk ?_
  intro A s Q E v ao T ob r h
  cases r with
  | list hl ho rl =>
  rename_i a vs
  obtain ⟨o, ho1, hc, n, hd⟩ := id hl
  refine wpAny_pyIter_list hl ?_
  have W := Walks.list (prog := PySem.Challenge.pw_wj0045_01) (w := c.w) (A := A) ao.handled s.heap.objs.size a (Nat.ne_of_lt (Heap.lt_size ho1)) vs.toArray
  have hn : vs.toArray.size = ds.length := by simp [rl.length]
  rw [hn] at W
  refine h _ _ _ _ _ _ _ Kp.push W ⟨⟨_, Heap.get?_push_size _ rfl, rfl, rfl⟩, hl.push _⟩ (fun b hb => ?_) (fun b hb => ?_) (fun i h st b hb => ?_) (fun i v hv => ?_)
  · rcases List.mem_cons.mp hb with e | hb
    · subst e
      exact ⟨_, Heap.get?_push_size _ rfl, by simp, by simp, by simp⟩
    · obtain rfl := List.mem_singleton.mp hb
      exact ⟨o, Heap.get?_push_of_some _ ho1, by simp [hd], by simp [hd], fun _ => ho⟩
  · obtain rfl := List.mem_singleton.mp hb
    exact Nat.le_refl _
  · obtain rfl := List.mem_singleton.mp hb
    obtain ⟨⟨o, e, hc, hd⟩, _⟩ := st
    exact ⟨o, e, by simp [Listy, hc], by simp [hd], by simp [hd]⟩
  · exact rl.scs hf (by simpa using hv)
noncomputable def rangeL (a n st : Int) : List D := (List.range (Builtin.Range.rangeSize a n st).toNat).map fun (i : Nat) => .int (a + (i : Int) * st)
theorem rangeL_length (a n st : Int) : (rangeL a n st).length = (Builtin.Range.rangeSize a n st).toNat := by simp [rangeL]
theorem ITER.range {a b n : Int} (hs : Builtin.Range.small a b n = true) (h0 : 0 ≤ Builtin.Range.rangeSize a b n) : ITER c k O (.range a b n) (rangeL a b n) := by
  refine .mk ?_
  intro A s Q E v ao T ob r h
  cases r with
  | range hr =>
  refine wpAny_pyIter_range hr hs ?_
  have W := (Walks.range (prog := PySem.Challenge.pw_wj0045_01) (w := c.w) (A := A) ao.handled s.heap.objs.size a n (Builtin.Range.rangeSize a b n).toNat).bound
  rw [← rangeL_length] at W
  refine h _ _ _ _ _ _ _ Kp.push W ?_ (fun b hb => ?_) (fun b hb => ?_) (fun i h st b hb => ?_) (fun i v hv => ?_)
  · show IsRangeIter _ _ _ _ _
    rw [rangeL_length, Int.toNat_of_nonneg h0]
    simpa using Heap.get?_push_size _ rfl
  · obtain rfl := List.mem_singleton.mp hb
    exact ⟨_, Heap.get?_push_size _ rfl, by simp, by simp, by simp⟩
  · obtain rfl := List.mem_singleton.mp hb
    exact Nat.le_refl _
  · obtain rfl := List.mem_singleton.mp hb
    have st : IsRangeIter _ _ _ _ _ := st
    exact ⟨_, st, by simp [Listy], by simp, by simp⟩
  · obtain ⟨hlt, t, rfl⟩ := hv
    rw [rangeL_length] at hlt
    exact ⟨.int (a + i * n), by simp [rangeL, hlt], .int ..⟩

theorem ITER.bytes {b : List UInt8} : ITER c k O (.bytes b) (b.map fun x => .int (x.toNat : Int)) := by
  refine .mk ?_
  intro A s Q E v ao T ob r h
  cases r with
  | bytes _ t =>
  refine KBw.pyIter_bytes ?_
  have W := KBw.walks (prog := PySem.Challenge.pw_wj0045_01) (w := c.w) (A := A) ao.handled s.heap.objs.size b.toArray t
  have hn : b.toArray.size = (b.map fun x => D.int (x.toNat : Int)).length := by simp
  rw [hn] at W
  refine h _ _ _ _ _ _ _ Kp.push W ⟨_, Heap.get?_push_size _ rfl, rfl, rfl⟩ (fun a ha => ?_) (fun a ha => ?_) (fun i h st a ha => ?_) (fun i v hv => ?_)
  · obtain rfl := List.mem_singleton.mp ha
    exact ⟨_, Heap.get?_push_size _ rfl, by simp, by simp, by simp⟩
  · obtain rfl := List.mem_singleton.mp ha
    exact Nat.le_refl _
  · obtain rfl := List.mem_singleton.mp ha
    obtain ⟨o, e, hc, hd⟩ := st
    exact ⟨o, e, by simp [Listy, hc], by simp [hd], by simp [hd]⟩
  · obtain ⟨x, u, e, rfl⟩ := hv
    exact ⟨.int (x.toNat : Int), by simpa using congrArg (Option.map fun x : UInt8 => D.int (x.toNat : Int)) e, .int ..⟩

/-- truth of a test -/
structure EB (c : Cx) (k : Nat) (env : Env) (O : Addr → Prop) (ρ : List (Str × Ent)) (e : Expr) (b : Bool) : Prop where
  run : ∀ (A : Around) (s : Shared) (Q : Bool → Shared → Prop) (E : Value → Shared → Prop), AOk k A → Top c s.heap → FR env O ρ s.heap →
    (∀ h' tk, Kp s.heap h' → Q b { s with heap := h', toks := tk }) → wpAny (MM c) A (isTrue e env (eval e env)) Q E s
noncomputable def EBs (c : Cx) (k : Nat) (env : Env) (O : Addr → Prop) (ρ : List (Str × Ent)) : List Expr → Bool → Prop
  | [], b => b = true
  | [t], b => EB c k env O ρ t b
  | _, _ => False

/-- what of a comprehension's scope is said without the run -/
structure CompOk (env : Env) (scope : Scope) (x : Str) (ρ ρ' : List (Str × Ent)) : Prop where
  kind : scope.kind = .function
  cell : ∀ y ∈ scope.names, y.2 ≠ .cell
  names : ∀ y ∈ scope.names, y.2 = .local → scope.names.lookup y.1 = some .local
  x : scope.names.lookup x = some .local
  sub : ∀ p ∈ ρ', p ∈ ρ ∧ scope.names.lookup p.1 = some .free ∧ env.kindOf p.1 = some .cell
  free : ∀ y ∈ scope.names, y.2 = .free → ∃ e, (y.1, e) ∈ ρ'

noncomputable def clOf (env : Env) : List (Str × NameKind) → List (Str × Addr) → List (Str × Addr)
  | [], acc => acc
  | (n, kd) :: r, acc => clOf env r (if kd == .free then (n, (env.cells.lookup n).getD 0) :: acc else acc)
theorem closure_go (env : Env) (f : Str × NameKind → List (Str × Addr) → Sem (ForInStep (List (Str × Addr))))
    (hf : ∀ n kd cs, f (n, kd) cs = if kd == .free then (do let a ← cellOf env n; pure (.yield ((n, a) :: cs))) else pure (.yield cs)) :
    ∀ (names : List (Str × NameKind)) (acc : List (Str × Addr)), (∀ y ∈ names, y.2 = .free → ∃ a, env.cells.lookup y.1 = some a) → forIn names acc f = pure (clOf env names acc)
  | [], acc, _ => by rw [List.forIn_nil]; rfl
  | (n, kd) :: r, acc, h => by
    rw [List.forIn_cons, hf]
    have hr := fun acc => closure_go env f hf r acc fun y hy => h y (List.mem_cons_of_mem _ hy)
    by_cases hk : kd = .free
    · subst hk
      obtain ⟨a, ha⟩ := h (n, .free) List.mem_cons_self rfl
      have e : cellOf env n = pure a := by unfold cellOf; rw [ha]
      simp only [beq_self_eq_true, if_true, e]
      show forIn r ((n, a) :: acc) f = _
      rw [hr]
      simp [clOf, ha]
    · have hb : (kd == NameKind.free) = false := by simpa using hk
      simp only [hb, Bool.false_eq_true, if_false]
      show forIn r acc f = _
      rw [hr]
      simp [clOf, hb]
theorem closure_is {env : Env} {scope : Scope} (h : ∀ y ∈ scope.names, y.2 = .free → ∃ a, env.cells.lookup y.1 = some a) : closureFor scope env = pure (clOf env scope.names []) := by
  unfold closureFor
  dsimp only
  rw [closure_go env _ (fun n kd cs => rfl) scope.names [] h]
  rfl
theorem clOf_acc (env : Env) : ∀ (names : List (Str × NameKind)) (acc : List (Str × Addr)) (n : Str) (a : Addr), env.cells.lookup n = some a → (∀ b, acc.lookup n = some b → b = a) →
    ((names.any fun y => y.1 == n && y.2 == .free) = true ∨ (acc.lookup n).isSome = true) → (clOf env names acc).lookup n = some a
  | [], acc, n, a, _, h1, h2 => by
    rcases h2 with h2 | h2
    · simp at h2
    · obtain ⟨b, hb⟩ := Option.isSome_iff_exists.mp h2
      show acc.lookup n = some a
      rw [hb, h1 b hb]
  | (m, kd) :: r, acc, n, a, ha, h1, h2 => by
    unfold clOf
    refine clOf_acc env r _ n a ha (fun b hb => ?_) ?_
    · split at hb
      · rw [List.lookup_cons] at hb
        split at hb
        · rename_i q
          have : n = m := by simpa using q
          subst this
          rw [ha] at hb
          cases hb; rfl
        · exact h1 b hb
      · exact h1 b hb
    · by_cases hr : (r.any fun y => y.1 == n && y.2 == .free) = true
      · exact .inl hr
      · right
        split
        · rw [List.lookup_cons]
          by_cases q : (n == m) = true
          · simp [q]
          · rcases h2 with h2 | h2
            · simp only [List.any_cons, Bool.or_eq_true, Bool.and_eq_true] at h2
              rcases h2 with h2 | h2
              · have : n = m := (by simpa using h2.1 : m = n).symm
                simp [this] at q
              · exact absurd h2 hr
            · simp only [Bool.not_eq_true] at q
              rw [q]; exact h2
        · rename_i hk
          rcases h2 with h2 | h2
          · simp only [List.any_cons, Bool.or_eq_true, Bool.and_eq_true] at h2
            rcases h2 with h2 | h2
            · exact absurd h2.2 hk
            · exact absurd h2 hr
          · exact h2
theorem lookup_mem {α : Type} [BEq α] {names : List (Str × α)} {n : Str} {a : α} (h : names.lookup n = some a) : (n, a) ∈ names := mem_of_lookup h
theorem relabel_free {env : Env} {names : List (Str × NameKind)} {x : Str} (hk : env.scope.kind = .function) (hx : env.kindOf x = some .cell) : names.lookup x = some .free →
    (names.map fun (n, k) => if (k == NameKind.free && env.scope.kind == .function && env.kindOf n == some .cell) then (n, NameKind.cell) else (n, k)).lookup x = some .cell := by
  induction names with
  | nil => intro h; simp at h
  | cons p r ih =>
    obtain ⟨n, kd⟩ := p
    intro h
    rw [List.map_cons]
    by_cases q : (x == n) = true
    · have e : x = n := by simpa using q
      subst e
      rw [List.lookup_cons, q] at h
      cases h
      simp [hk, hx]
    · simp only [Bool.not_eq_true] at q
      rw [List.lookup_cons, q] at h
      have := ih h
      dsimp only
      split <;> (rw [List.lookup_cons, q]; exact this)
/-- the comprehension's own frame -/
theorem CompOk.fr {scope : Scope} {x : Str} {ρ' : List (Str × Ent)} (X : CompOk env scope x ρ ρ') {h h' : Heap} (F : FR env O ρ h) (k1 : Kp h h') {C : Addr} {m : Str → Option Value} {v : Value} {d : D}
    (hn : h'.Ns C m) (hv : m x = some v) (hd : Sc v d) : FR (compEnvC scope (clOf env scope.names []) C env) O ((x, .val d) :: ρ') h' where
  kind := X.kind
  glob := F.glob
  blt := F.blt
  ob := (F.kp k1).ob
  vars := fun y e hm => by
    rcases List.mem_cons.mp hm with q | hm
    · cases q
      exact ⟨v, .inl ⟨lookup_relabel_local X.x, m, hn, hv⟩, hd.rep O h'⟩
    · obtain ⟨h1, h2, h3⟩ := X.sub _ hm
      obtain ⟨v', hv', he'⟩ := F.vars _ _ h1
      rcases hv' with ⟨hl, _⟩ | ⟨hl, a, ha, hc⟩
      · rw [h3] at hl; cases hl
      · refine ⟨v', .inr ⟨relabel_free F.kind h3 h2, a, clOf_acc env scope.names [] y a ha (fun b hb => by simp at hb) (.inl ?_), hc.keeps k1⟩, he'.kp k1⟩
        exact List.any_eq_true.mpr ⟨(y, .free), mem_of_lookup h2, by simp⟩
theorem CompOk.cl {scope : Scope} {x : Str} {ρ' : List (Str × Ent)} (X : CompOk env scope x ρ ρ') {h : Heap} (F : FR env O ρ h) : closureFor scope env = pure (clOf env scope.names []) :=
  closure_is fun y hy hf => by
    obtain ⟨e, he⟩ := X.free y hy hf
    obtain ⟨h1, h2, h3⟩ := X.sub _ he
    obtain ⟨v', hv', _⟩ := F.vars _ _ h1
    rcases hv' with ⟨hl, _⟩ | ⟨hl, a, ha, hc⟩
    · rw [h3] at hl; cases hl
    · exact ⟨a, ha⟩

theorem paired_rep {pd : D → Bool} {fd : D → D} {p : Value → Bool} (hp : ∀ v d, Sc v d → p v = pd d) : ∀ {vs : List Value} {ds : List D} {ys : List Value}, vs.length = ds.length → (∀ (i : Nat) (v : Value), vs[i]? = some v → ∃ d, ds[i]? = some d ∧ Sc v d) →
    Paired (fun v y => ∀ d, Sc v d → Sc y (fd d)) (vs.filter p) ys → ∀ (O : Addr → Prop) (h : Heap), RepL O h ys ((ds.filter pd).map fd)
  | [], [], ys, _, _, hF, O, h => by cases hF; exact .nil
  | [], _ :: _, _, hl, _, _, _, _ => by simp at hl
  | _ :: _, [], _, hl, _, _, _, _ => by simp at hl
  | v :: vs, d :: ds, ys, hl, hP, hF, O, h => by
    obtain ⟨d', e, hd⟩ := hP 0 v rfl
    simp at e; subst e
    have hl' : vs.length = ds.length := by simpa using hl
    have hP' : ∀ (i : Nat) (v : Value), vs[i]? = some v → ∃ d, ds[i]? = some d ∧ Sc v d := fun i u hu => by simpa using hP (i + 1) u (by simpa using hu)
    cases hb : pd d with
    | false =>
      rw [List.filter_cons_of_neg (by rw [hp v d hd, hb]; simp)] at hF
      rw [List.filter_cons_of_neg (by simp [hb])]
      exact paired_rep hp hl' hP' hF O h
    | true =>
      rw [List.filter_cons_of_pos (by rw [hp v d hd, hb])] at hF
      rw [List.filter_cons_of_pos (by simp [hb])]
      cases hF with
      | cons hy ht => exact .cons ((hy d hd).rep O h) (paired_rep hp hl' hP' ht O h)
open Classical in
/-- a comprehension of one clause -/
theorem EV.comp {elt iter : Expr} {x : Str} {px : Pos} {ifs : List Expr} {scope : Scope} {pos : Pos} {ρ' : List (Str × Ent)} {dv : D} {ds : List D} (pd : D → Bool) (fd : D → D)
    (X : CompOk env scope x ρ ρ') (hi : EV c k env O ρ iter dv) (hw : ITER c k O dv ds) (hz : ds.length ≤ 16777216)
    (ht : ∀ C d, d ∈ ds → EBs c k (compEnvC scope (clOf env scope.names []) C env) O ((x, .val d) :: ρ') ifs (pd d))
    (he : ∀ C d, d ∈ ds → pd d = true → EV c k (compEnvC scope (clOf env scope.names []) C env) O ((x, .val d) :: ρ') elt (fd d))
    (hfl : ∀ d ∈ ds, pd d = true → (fd d).flat = true)
    (hs : ∀ x, foldedSetIterable iter env x = pure x := by intro _; rfl) :
    EV c k env O ρ (.ListComp elt [⟨.Name x px, iter, ifs, 0⟩] scope pos) (.list ((ds.filter pd).map fd)) := by
  refine .mk ?_
  intro A s Q E ao T F h
  have hpv : ∀ v d, Sc v d → (decide (∃ d, Sc v d ∧ pd d = true)) = pd d := fun v d hd => by
    by_cases q : pd d = true
    · rw [q]; exact decide_eq_true ⟨d, hd, q⟩
    · have q' : pd d = false := by simpa using q
      rw [q']; exact decide_eq_false fun ⟨d', h1, h2⟩ => q (by rw [hd.inj h1]; exact h2)
  refine wpAny_ListComp_free (fun v => decide (∃ d, Sc v d ∧ pd d = true)) (fun v y => ∀ d, Sc v d → Sc y (fd d)) (X.cl F) X.cell X.kind X.names X.x ?_ hs
  refine hi.run A s _ E ao T F fun xv h1 t1 k1 r1 => hw.run A _ _ E xv ao (T.kp k1) (F.kp k1).ob r1 fun I fp wr P St h2 t2 k2 W st0 hfp hwr _ hP => ?_
  have W := W.bound
  have old : ∀ b o, s.heap.get? b = some o → b ∉ wr := fun b o e hm => by
    have h3 : b < s.heap.objs.size := Heap.lt_size e
    have h4 := hwr b hm
    have h5 : b < h1.objs.size := Heap.lt_size (k1 b o e)
    exact absurd h5 (Nat.not_lt.mpr h4)
  have up : ∀ {h3 : Heap}, (∀ b o, b ∉ wr → h2.get? b = some o → h3.get? b = some o) → Kp s.heap h3 := fun hk b o e => hk b o (old b o e) (k2 b o (k1 b o e))
  refine ⟨I, fp, wr, _, _, St, rfl, W, by rw [sizeLine_eq]; exact hz, st0, fun b hb => let ⟨o, e, _⟩ := hfp b hb; Heap.lt_size e, ⟨?_, ?_⟩, ?_⟩
  · intro C i v s₃ m₃ E' hC hv hn hm hk htk
    obtain ⟨hlt, hv⟩ := hv
    obtain ⟨d, hd, hsc⟩ := hP i v hv
    have hmem : d ∈ ds := List.mem_of_getElem? hd
    have k3 := up hk
    have F3 := X.fr (C := C) F k3 hn hm hsc
    have z := ht C d hmem
    cases ifs with
    | nil =>
      have z : pd d = true := z
      rw [List.forIn_nil]
      exact wpAny_pure ⟨by rw [hpv v d hsc, z], ⟨_, _, rfl, fun _ _ e => e⟩⟩
    | cons t r =>
      cases r with
      | cons => exact z.elim
      | nil =>
        have z : EB c k _ O _ t (pd d) := z
        rw [List.forIn_cons]
        simp only [if_true]
        refine wpAny_bind (wpAny_bind (z.run A s₃ _ _ ao (T.kp k3) F3 fun h4 t4 k4 => wpAny_pure ?_))
        show wpAny _ _ (forIn [] _ _) _ _ _
        rw [List.forIn_nil]
        exact wpAny_pure ⟨by rw [hpv v d hsc], ⟨_, _, rfl, k4⟩⟩
  · intro C i v s₃ m₃ E' hC hv hpv' hn hm hk htk
    obtain ⟨hlt, hv⟩ := hv
    obtain ⟨d, hd, hsc⟩ := hP i v hv
    have hmem : d ∈ ds := List.mem_of_getElem? hd
    have hpd : pd d = true := by rw [← hpv v d hsc]; exact hpv'
    have k3 := up hk
    refine (he C d hmem hpd).run A s₃ _ _ ao (T.kp k3) (X.fr F k3 hn hm hsc) fun y h4 t4 k4 r4 => ⟨fun d' hd' => ?_, ⟨_, _, rfl, k4⟩⟩
    rw [← hsc.inj hd']
    exact r4.sc (hfl d hmem hpd)
  · intro D h' tk ys vs hD hlD hpl hlen hPs hF hk
    refine h _ _ _ (up hk) (.list (vs := ys.toList) (by simpa using hlD) (fun q => ?_) (paired_rep hpv hlen (fun i v hv => hP i v (hPs i v hv).2) hF O h'))
    obtain ⟨o, e⟩ := F.ob _ q
    rw [k2 _ o (k1 _ o e)] at hD
    cases hD
end
end Mine
end
section -- W5
open PySem PySem.W PyProof.Rows PySem.Calls
set_option Elab.async false
set_option linter.all false
namespace Mine
noncomputable def Ent.addr : Ent → Option Addr
  | .val _ => none
  | .own a _ => some a
  | .app a _ => some a
noncomputable def ownAddrs (ρ : List (Str × Ent)) : List Addr := ρ.filterMap fun p => p.2.addr
noncomputable abbrev OwnO (O₀ : Addr → Prop) (ρ : List (Str × Ent)) : Addr → Prop := fun a => O₀ a ∨ a ∈ ownAddrs ρ
noncomputable def setV : List (Str × Ent) → Str → Ent → List (Str × Ent)
  | [], x, e => [(x, e)]
  | (y, f) :: r, x, e => if y = x then (x, e) :: r else (y, f) :: setV r x e
theorem mem_setV {x : Str} {e : Ent} : ∀ {ρ : List (Str × Ent)} {y : Str} {f : Ent}, (ρ.map (·.1)).Nodup → (y, f) ∈ setV ρ x e → (y = x ∧ f = e) ∨ (y ≠ x ∧ (y, f) ∈ ρ)
  | [], y, f, _, h => by
    simp only [setV, List.mem_singleton, Prod.mk.injEq] at h
    exact .inl h
  | (z, g) :: r, y, f, hn, h => by
    rw [List.map_cons, List.nodup_cons] at hn
    unfold setV at h
    split at h
    · rename_i q
      subst q
      rcases List.mem_cons.mp h with q | q
      · cases q; exact .inl ⟨rfl, rfl⟩
      · refine .inr ⟨fun e => hn.1 ?_, List.mem_cons_of_mem _ q⟩
        subst e
        exact List.mem_map.mpr ⟨_, q, rfl⟩
    · rename_i hz
      rcases List.mem_cons.mp h with q | q
      · cases q; exact .inr ⟨hz, List.mem_cons_self⟩
      · rcases mem_setV hn.2 q with q | q
        · exact .inl q
        · exact .inr ⟨q.1, List.mem_cons_of_mem _ q.2⟩
theorem setV_names {x : Str} {e : Ent} : ∀ {ρ : List (Str × Ent)} {y : Str}, y ∈ (setV ρ x e).map (·.1) → y = x ∨ y ∈ ρ.map (·.1)
  | [], y, h => by simp [setV] at h; exact .inl h
  | (z, g) :: r, y, h => by
    unfold setV at h
    split at h
    · rename_i q
      subst q
      exact .inr (by simpa using h)
    · rw [List.map_cons] at h
      rcases List.mem_cons.mp h with q | q
      · exact .inr (by rw [List.map_cons, q]; exact List.mem_cons_self)
      · rcases setV_names q with q | q
        · exact .inl q
        · exact .inr (by rw [List.map_cons]; exact List.mem_cons_of_mem _ q)
theorem setV_nodup {x : Str} {e : Ent} : ∀ {ρ : List (Str × Ent)}, (ρ.map (·.1)).Nodup → ((setV ρ x e).map (·.1)).Nodup
  | [], _ => by simp [setV]
  | (z, g) :: r, hn => by
    rw [List.map_cons, List.nodup_cons] at hn
    unfold setV
    split
    · rename_i q
      subst q
      rw [List.map_cons, List.nodup_cons]; exact hn
    · rename_i hz
      rw [List.map_cons, List.nodup_cons]
      refine ⟨fun h => ?_, setV_nodup hn.2⟩
      rcases setV_names h with q | q
      · exact hz q
      · exact hn.1 q
theorem setV_own {x : Str} {e : Ent} : ∀ {ρ : List (Str × Ent)} {a : Addr}, a ∈ ownAddrs (setV ρ x e) → e.addr = some a ∨ a ∈ ownAddrs ρ
  | [], a, h => by simp [setV, ownAddrs] at h; exact .inl h
  | (z, g) :: r, a, h => by
    unfold setV at h
    unfold ownAddrs at h ⊢
    obtain ⟨p, hp, hq⟩ := List.mem_filterMap.mp h
    split at hp
    · rcases List.mem_cons.mp hp with q | q
      · subst q; exact .inl hq
      · exact .inr (List.mem_filterMap.mpr ⟨p, List.mem_cons_of_mem _ q, hq⟩)
    · rcases List.mem_cons.mp hp with q | q
      · subst q; exact .inr (List.mem_filterMap.mpr ⟨_, List.mem_cons_self, hq⟩)
      · rcases setV_own (ρ := r) (List.mem_filterMap.mpr ⟨p, q, hq⟩) with q | q
        · exact .inl q
        · obtain ⟨p', h1, h2⟩ := List.mem_filterMap.mp q
          exact .inr (List.mem_filterMap.mpr ⟨p', List.mem_cons_of_mem _ h1, h2⟩)
theorem setV_val_nodup {x : Str} {d : D} : ∀ {ρ : List (Str × Ent)}, (ownAddrs ρ).Nodup → (ownAddrs (setV ρ x (.val d))).Nodup
  | [], _ => by simp [setV, ownAddrs, Ent.addr]
  | (z, g) :: r, hn => by
    unfold setV
    split
    · unfold ownAddrs at hn ⊢
      rw [List.filterMap_cons] at hn ⊢
      simp only [Ent.addr]
      split at hn
      · exact hn
      · exact (List.nodup_cons.mp hn).2
    · have ih := fun h => setV_val_nodup (x := x) (d := d) (ρ := r) h
      unfold ownAddrs at hn ⊢
      rw [List.filterMap_cons] at hn ⊢
      simp only at hn ⊢
      cases hg : g.addr with
      | none => rw [hg] at hn; exact ih hn
      | some b =>
        rw [hg] at hn
        simp only at hn ⊢
        obtain ⟨h1, h2⟩ := List.nodup_cons.mp hn
        refine List.nodup_cons.mpr ⟨fun h => ?_, ih h2⟩
        rcases setV_own h with q | q
        · cases q
        · exact h1 q

structure FS (env : Env) (h₀ : Heap) (O₀ : Addr → Prop) (ρ : List (Str × Ent)) (h : Heap) : Prop where
  fr : FR env (OwnO O₀ ρ) ρ h
  keep : Kp h₀ h
  ns : ∃ m, h.Ns env.locals m
  above : h₀.objs.size ≤ env.locals
  cellAb : ∀ n a, env.cells.lookup n = some a → h₀.objs.size ≤ a ∧ ∃ v, h.IsCell a v
  cellAp : ∀ n n' a, env.cells.lookup n = some a → env.cells.lookup n' = some a → n = n'
  ownAb : ∀ a ∈ ownAddrs ρ, h₀.objs.size ≤ a
  ownNd : (ownAddrs ρ).Nodup
  nd : (ρ.map (·.1)).Nodup
  o0 : ∀ a, O₀ a → a < h₀.objs.size
section
variable {c : Cx} {k : Nat} {env : Env} {O₀ : Addr → Prop} {ρ : List (Str × Ent)} {h₀ h h' : Heap}
theorem FS.kp (F : FS env h₀ O₀ ρ h) (k : Kp h h') : FS env h₀ O₀ ρ h' where
  fr := F.fr.kp k
  keep := F.keep.trans k
  ns := let ⟨m, e⟩ := F.ns; ⟨m, e.keeps k⟩
  above := F.above
  cellAb := fun n a e => let ⟨x, v, y⟩ := F.cellAb n a e; ⟨x, v, y.keeps k⟩
  cellAp := F.cellAp
  ownAb := F.ownAb
  ownNd := F.ownNd
  nd := F.nd
  o0 := F.o0
theorem ns_ne_cell {L a : Addr} {m : Str → Option Value} {v : Option Value} (hn : h.Ns L m) (hc : h.IsCell a v) : L ≠ a := by
  rintro rfl
  obtain ⟨o', es, ep, e', hd, _⟩ := hn
  obtain ⟨o'', e'', hd'⟩ := hc
  rw [e'] at e''
  cases e''
  rw [hd] at hd'
  cases hd'
theorem RepL.any {O O' : Addr → Prop} {h h' : Heap} : ∀ {vs : List Value} {ds : List D}, RepL O h vs ds → (∀ d ∈ ds, d.flat = true) → RepL O' h' vs ds
  | _, _, .nil, _ => .nil
  | _, _, .cons a b, f => .cons ((a.sc (f _ List.mem_cons_self)).rep _ _) (b.any fun d m => f d (List.mem_cons_of_mem _ m))
theorem Ns.inj {L : Addr} {m m' : Str → Option Value} (x : h.Ns L m) (y : h.Ns L m') (n : Str) : m n = m' n := by
  obtain ⟨o, es, ep, e, hd, _, f⟩ := x
  obtain ⟨o', es', ep', e', hd', _, f'⟩ := y
  rw [e] at e'
  cases e'
  rw [hd] at hd'
  cases hd'
  rw [← f, ← f']
/-- the new entry, before it is stored: what it is in the heap at hand; h1: the heap at the statement's start -/
noncomputable def EntNew (O : Addr → Prop) (h1 h : Heap) (v : Value) : Ent → Prop
  | .val d => Rep O h v d
  | .own a ds => v = .ref a ∧ h1.objs.size ≤ a ∧ (∀ d ∈ ds, d.flat = true) ∧ ∃ vs, h.IsList a vs.toArray ∧ RepL O h vs ds
  | .app a ds => v = .ref a ∧ h1.objs.size ≤ a ∧ (∀ d ∈ ds, d.flat = true) ∧ ∃ vs, PlainL h a vs.toArray ∧ RepL O h vs ds
theorem PlainL.isList' {a : Addr} {its : Array Value} (x : PlainL h a its) : h.IsList a its := let ⟨o, n, e, hc, _, hd⟩ := x; ⟨o, e, hc, n, hd⟩
theorem EntNew.alive {O : Addr → Prop} {h1 h : Heap} {v : Value} {e : Ent} (x : EntNew O h1 h v e) : ∀ a, e.addr = some a → h1.objs.size ≤ a ∧ ∃ o, h.get? a = some o ∧ ∃ vs n, o.data = .seq vs n := by
  cases e with
  | val d => intro a q; cases q
  | own a ds => obtain ⟨_, h2, _, vs, ⟨o, e, hc, n, hd⟩, _⟩ := x; intro b q; cases q; exact ⟨h2, o, e, _, _, hd⟩
  | app a ds => obtain ⟨_, h2, _, vs, ⟨o, n, e, hc, _, hd⟩, _⟩ := x; intro b q; cases q; exact ⟨h2, o, e, _, _, hd⟩
theorem EntIs.alive {O : Addr → Prop} {h : Heap} {v : Value} {e : Ent} (x : EntIs O h v e) : ∀ a, e.addr = some a → ∃ o, h.get? a = some o ∧ ∃ vs n, o.data = .seq vs n := by
  cases e with
  | val d => intro a q; cases q
  | own a ds => obtain ⟨_, h2, _, vs, ⟨o, e, hc, n, hd⟩, _⟩ := x; intro b q; cases q; exact ⟨o, e, _, _, hd⟩
  | app a ds => obtain ⟨_, h2, _, vs, ⟨o, n, e, hc, _, hd⟩, _⟩ := x; intro b q; cases q; exact ⟨o, e, _, _, hd⟩
/-- an entry under a change of the heap that leaves all that is no frame -/
theorem EntIs.upd {O O' : Addr → Prop} {v : Value} {e : Ent} (x : EntIs O h v e) (hk : ∀ b o, h.get? b = some o → (∀ es ep, o.data ≠ .dict es ep) → (∀ v, o.data ≠ .cell v) → h'.get? b = some o)
    (hs : ∀ b o, h.get? b = some o → O' b → O b) (ha : ∀ a, e.addr = some a → O' a) : EntIs O' h' v e := by
  have hk' : ∀ b o, h.get? b = some o → Foot O b o → h'.get? b = some o ∧ (o.cls = .type "list" → ¬ O' b) := fun b o e f => ⟨hk b o e f.1.1 f.1.2.1, fun q z => f.1.2.2 q (hs b o e z)⟩
  cases e with
  | val d => exact Rep.mono hk' x
  | own a ds =>
    obtain ⟨e, o, f, vs, ⟨ob, hl, hc, n, hd⟩, hr⟩ := x
    exact ⟨e, ha a rfl, f, vs, ⟨ob, hk _ _ hl (by simp [hd]) (by simp [hd]), hc, n, hd⟩, hr.any f⟩
  | app a ds =>
    obtain ⟨e, o, f, vs, ⟨ob, n, hl, hc, hdd, hd⟩, hr⟩ := x
    exact ⟨e, ha a rfl, f, vs, ⟨ob, n, hk _ _ hl (by simp [hd]) (by simp [hd]), hc, hdd, hd⟩, hr.any f⟩
theorem EntNew.upd {O O' : Addr → Prop} {h1 : Heap} {v : Value} {e : Ent} (x : EntNew O h1 h v e) (hk : ∀ b o, h.get? b = some o → (∀ es ep, o.data ≠ .dict es ep) → (∀ v, o.data ≠ .cell v) → h'.get? b = some o)
    (hs : (∃ d, e = .val d) → ∀ b, O' b → O b) (ha : ∀ a, e.addr = some a → O' a) : EntIs O' h' v e := by
  cases e with
  | val d => exact Rep.mono (fun b o e f => ⟨hk b o e f.1.1 f.1.2.1, fun q z => f.1.2.2 q (hs ⟨d, rfl⟩ b z)⟩) x
  | own a ds =>
    obtain ⟨e, o, f, vs, ⟨ob, hl, hc, n, hd⟩, hr⟩ := x
    exact ⟨e, ha a rfl, f, vs, ⟨ob, hk _ _ hl (by simp [hd]) (by simp [hd]), hc, n, hd⟩, hr.any f⟩
  | app a ds =>
    obtain ⟨e, o, f, vs, ⟨ob, n, hl, hc, hdd, hd⟩, hr⟩ := x
    exact ⟨e, ha a rfl, f, vs, ⟨ob, n, hk _ _ hl (by simp [hd]) (by simp [hd]), hc, hdd, hd⟩, hr.any f⟩
theorem setV_mem {x : Str} {e : Ent} : ∀ {ρ : List (Str × Ent)}, (x, e) ∈ setV ρ x e
  | [] => List.mem_cons_self
  | (z, g) :: r => by
    unfold setV
    split
    · exact List.mem_cons_self
    · exact List.mem_cons_of_mem _ setV_mem
theorem setV_keep {x y : Str} {e f : Ent} (hy : y ≠ x) : ∀ {ρ : List (Str × Ent)}, (y, f) ∈ ρ → (y, f) ∈ setV ρ x e
  | (z, g) :: r, h => by
    unfold setV
    split
    · rename_i q
      rcases List.mem_cons.mp h with p | p
      · cases p; exact absurd q hy
      · exact List.mem_cons_of_mem _ p
    · rcases List.mem_cons.mp h with p | p
      · cases p; exact List.mem_cons_self
      · exact List.mem_cons_of_mem _ (setV_keep hy p)
theorem addr_own {x : Str} {e : Ent} {a : Addr} (h : (x, e) ∈ ρ) (ha : e.addr = some a) : a ∈ ownAddrs ρ := List.mem_filterMap.mpr ⟨_, h, ha⟩
/-- the state behind a store -/
theorem FS.after {x : Str} {e : Ent} {v : Value} {h1 h h' : Heap} {b0 : Addr} (F : FS env h₀ O₀ ρ h1) (k1 : Kp h1 h) (hs : Heap.SameBut b0 h h')
    (hb : b0 = env.locals ∨ env.cells.lookup x = some b0)
    (hns : ∃ m, h'.Ns env.locals m) (hcl : ∀ n a, env.cells.lookup n = some a → ∃ v, h'.IsCell a v)
    (hx : VarIs env h' x v) (hy : ∀ y v', y ≠ x → VarIs env h y v' → VarIs env h' y v')
    (he : EntNew (OwnO O₀ ρ) h1 h v e) (hnd : (ownAddrs (setV ρ x e)).Nodup) : FS env h₀ O₀ (setV ρ x e) h' := by
  have F2 := F.kp k1
  have hk : ∀ b o, h.get? b = some o → (∀ es ep, o.data ≠ .dict es ep) → (∀ v, o.data ≠ .cell v) → h'.get? b = some o := fun b o e2 f1 f2 => by
    refine (hs.2 b ?_).trans e2
    rintro rfl
    rcases hb with rfl | hb
    · obtain ⟨m, o', es, ep, e3, hd, _⟩ := F2.ns
      rw [e2] at e3; cases e3
      exact f1 _ _ hd
    · obtain ⟨_, v, o', e3, hd⟩ := F2.cellAb _ _ hb
      rw [e2] at e3; cases e3
      exact f2 _ hd
  have alive := he.alive
  refine ⟨⟨F.fr.kind, F.fr.glob, F.fr.blt, fun y f hm => ?_, fun a ha => ?_⟩, fun b o e2 => ?_, hns, F.above, fun n a e2 => ⟨(F.cellAb n a e2).1, hcl n a e2⟩, F.cellAp, fun a ha => ?_, hnd, setV_nodup F.nd, F.o0⟩
  · rcases mem_setV F.nd hm with ⟨rfl, rfl⟩ | ⟨hne, hm'⟩
    · refine ⟨v, hx, he.upd hk (fun ⟨d, q⟩ b z => ?_) fun a ha => .inr (addr_own setV_mem ha)⟩
      subst q
      rcases z with z | z
      · exact .inl z
      · rcases setV_own z with q | q
        · cases q
        · exact .inr q
    · obtain ⟨v', hv', he'⟩ := F2.fr.vars y f hm'
      obtain ⟨v1, hv1, he1⟩ := F.fr.vars y f hm'
      have hv2 : VarIs env h y v1 := hv1.kp k1
      refine ⟨v1, hy y v1 hne hv2, ?_⟩
      -- the entry, seen in the first heap
      refine EntIs.upd he1 (fun b o e2 f1 f2 => hk b o (k1 b o e2) f1 f2) (fun b o e2 z => ?_) fun a ha => .inr (addr_own (setV_keep hne hm') ha)
      rcases z with z | z
      · exact .inl z
      · rcases setV_own z with q | q
        · exact absurd (Heap.lt_size e2) (Nat.not_lt.mpr (alive b q).1)
        · exact .inr q
  · have : ∃ o, h.get? a = some o ∧ ((∃ vs n, o.data = .seq vs n) ∨ O₀ a) := by
      rcases ha with z | z
      · obtain ⟨o, e2⟩ := F2.fr.ob a (.inl z)
        exact ⟨o, e2, .inr z⟩
      · rcases setV_own z with q | q
        · obtain ⟨_, o, e2, hd⟩ := alive a q
          exact ⟨o, e2, .inl hd⟩
        · obtain ⟨p, hp, hq⟩ := List.mem_filterMap.mp q
          obtain ⟨v', _, he'⟩ := F2.fr.vars p.1 p.2 hp
          obtain ⟨o, e2, hd⟩ := he'.alive a hq
          exact ⟨o, e2, .inl hd⟩
    obtain ⟨o, e2, hd⟩ := this
    rcases hd with ⟨vs, n, hd⟩ | z
    · exact ⟨o, hk a o e2 (by simp [hd]) (by simp [hd])⟩
    · have hlt := F.o0 a z
      refine ⟨o, (hs.2 a ?_).trans e2⟩
      rintro rfl
      rcases hb with rfl | hb
      · exact absurd hlt (Nat.not_lt.mpr F.above)
      · exact absurd hlt (Nat.not_lt.mpr (F.cellAb _ _ hb).1)
  · refine (hs.2 b ?_).trans (k1 b o (F.keep b o e2))
    have hlt : b < h₀.objs.size := Heap.lt_size e2
    rintro rfl
    rcases hb with rfl | hb
    · exact absurd hlt (Nat.not_lt.mpr F.above)
    · exact absurd hlt (Nat.not_lt.mpr (F.cellAb _ _ hb).1)
  · rcases setV_own ha with q | q
    · obtain ⟨m, hm⟩ := F.ns
      exact Nat.le_trans (Nat.le_of_lt (Nat.lt_of_le_of_lt F.above hm.lt)) (alive a q).1
    · exact F.ownAb a q

end
end Mine
end
section -- W6
open PySem PySem.W PyProof.Rows PySem.Calls
set_option Elab.async false
set_option linter.all false
namespace Mine
inductive Out where
  | next (ρ : List (Str × Ent))
  | ret (d : D)
/-- what statements leave -/
structure Step (env : Env) (ρ : List (Str × Ent)) (h : Heap) (ρ' : List (Str × Ent)) (h' : Heap) : Prop where
  keep : ∀ b o, b ≠ env.locals → (∀ n, env.cells.lookup n ≠ some b) → b ∉ ownAddrs ρ → h.get? b = some o → h'.get? b = some o
  own : ∀ a ∈ ownAddrs ρ', a ∈ ownAddrs ρ ∨ h.objs.size ≤ a
  size : h.objs.size ≤ h'.objs.size
section
variable {c : Cx} {k : Nat} {env : Env} {O₀ : Addr → Prop} {ρ ρ₁ ρ₂ : List (Str × Ent)} {h₀ h h' h1 h2 h3 : Heap}
theorem Step.refl : Step env ρ h ρ h := ⟨fun _ _ _ _ _ e => e, fun _ a => .inl a, Nat.le_refl _⟩
theorem Step.trans (x : Step env ρ h1 ρ₁ h2) (y : Step env ρ₁ h2 ρ₂ h3) : Step env ρ h1 ρ₂ h3 :=
  ⟨fun b o n1 n2 n3 e => y.keep b o n1 n2 (fun q => (x.own b q).elim n3 fun z => absurd (Heap.lt_size e) (Nat.not_lt.mpr z)) (x.keep b o n1 n2 n3 e),
   fun a ha => (y.own a ha).elim (x.own a) fun z => .inr (Nat.le_trans x.size z), Nat.le_trans x.size y.size⟩
theorem Kp.step (x : Kp h h') (hs : h.objs.size ≤ h'.objs.size) : Step env ρ h ρ h' := ⟨fun b o _ _ _ e => x b o e, fun _ a => .inl a, hs⟩
end

/-- the heap grows -/
theorem runs_size {M : Model} {Γ : Ctx} {p : Pos} {t : Sem Fin} {fs : List Frame} {s s' : Shared} {e : End} (h : Runs M Γ p t fs s e s') : s.heap.objs.size ≤ s'.heap.objs.size := by
  induction h <;> (try simp only [Shared.setGen, Heap.size_push, Heap.size_update] at *) <;> omega
theorem wakes_size {M : Model} {Γ : Ctx} {p : Pos} {g : Nat} {r : Resume} {s s' : Shared} {res : GenResult} (h : Wakes M Γ p g r s res s') : s.heap.objs.size ≤ s'.heap.objs.size := by
  unfold Wakes at h
  split at h
  · exact h.elim
  · split at h
    · obtain ⟨e₁, s₁, hr, _, _, rfl⟩ := h; exact (runs_size hr : (s.setGen g .running).heap.objs.size ≤ s₁.heap.objs.size)
    · rw [h.2]; exact Nat.le_refl _
    · rw [h.2]; exact Nat.le_refl _
  · obtain ⟨e₁, s₁, hr, _, _, rfl⟩ := h; exact (runs_size hr : (s.setGen g .running).heap.objs.size ≤ s₁.heap.objs.size)
  · rw [h.2]; exact Nat.le_refl _
  · rw [h.2]; exact Nat.le_refl _
theorem wp_size {α : Type} (M : Model) (Γ : Ctx) (n : Nat) (t : Sem α) : ∀ (Q : α → Pos → Shared → Prop) (E : Value → Pos → Shared → Prop) (p : Pos) (s : Shared), n ≤ s.heap.objs.size → Sem.wp M Γ t Q E p s →
    Sem.wp M Γ t (fun a p' s' => n ≤ s'.heap.objs.size ∧ Q a p' s') (fun e p' s' => n ≤ s'.heap.objs.size ∧ E e p' s') p s := by
  induction t with
  | pure a => intro Q E p s hn h; exact ⟨hn, h⟩
  | raise e => intro Q E p s hn h; exact ⟨hn, h⟩
  | unsupported _ => intro Q E p s _ h; exact h
  | finish _ => intro Q E p s _ h; exact h
  | rule _ k ih => intro Q E p s hn h; exact ih () Q E p s hn h
  | «at» p' k ih => intro Q E p s hn h; exact ih () Q E p' s hn h
  | load a _ k ih => intro Q E p s hn h; obtain ⟨o, ho, h⟩ := h; exact ⟨o, ho, ih o Q E p s hn h⟩
  | update a _ f k ih => intro Q E p s hn h; exact ⟨h.1, ih () Q E p _ (by simpa only [Heap.size_update] using hn) h.2⟩
  | loadIfAlive a k ih => intro Q E p s hn h; exact ih _ Q E p s hn h
  | point _ k ih => intro Q E p s hn h; exact ih () Q E p s hn h
  | register _ _ => intro Q E p s _ h; exact h
  | alloc o k ih => intro Q E p s hn h; exact ih _ Q E p _ (by simp only [Heap.size_push]; omega) h
  | fresh k ih => intro Q E p s hn h; exact ih _ Q E p _ hn h
  | ask k ih => intro Q E p s hn h; exact ih _ Q E p s hn h
  | choose src m k ih => intro Q E p s hn h; exact ⟨h.1, ih _ Q E p _ hn h.2⟩
  | os q _ k ih => intro Q E p s hn h; exact ih _ Q E p _ hn h
  | call c hd _ _ k ih => intro Q E p s hn h; obtain ⟨r, s', hr, h⟩ := h; exact ⟨r, s', hr, ih r Q E p s' (Nat.le_trans hn (runs_size hr)) h⟩
  | handled own k ih => intro Q E p s hn h; exact ih _ Q E p s hn h
  | genState g k ih => intro Q E p s hn h; obtain ⟨st, hs, h⟩ := h; exact ⟨st, hs, ih _ Q E p s hn h⟩
  | newGen c k ih => intro Q E p s hn h; exact ih _ Q E p _ hn h
  | resume g r _ k ih => intro Q E p s hn h; obtain ⟨res, s', hw, h⟩ := h; exact ⟨res, s', hw, ih res Q E p s' (Nat.le_trans hn (wakes_size hw)) h⟩
  | yield _ _ _ _ => intro Q E p s _ h; exact h
  | stack k ih => intro Q E p s hn h; exact ih _ Q E p s hn h
  | fork _ _ => intro Q E p s _ h; exact h
  | thread k ih => intro Q E p s hn h; exact ih _ Q E p s hn h
  | await _ _ _ _ _ => intro Q E p s _ h; exact h
theorem wpAny_grows {c : Cx} {A : Around} {α : Type} {t : Sem α} {Q : α → Shared → Prop} {E : Value → Shared → Prop} {s : Shared}
    (h : wpAny (MM c) A t (fun a s' => s.heap.objs.size ≤ s'.heap.objs.size → Q a s') E s) : wpAny (MM c) A t Q E s :=
  fun Γ p hΓ => Sem.wp_mono _ Γ t (fun a p' s' q => q.2 q.1) (fun e p' s' q => q.2) p s (wp_size _ Γ s.heap.objs.size t _ _ p s (Nat.le_refl _) (h Γ p hΓ))

section
variable {c : Cx} {k : Nat} {env : Env} {O₀ : Addr → Prop} {ρ ρ₁ ρ₂ : List (Str × Ent)} {h₀ h h' h1 h2 h3 : Heap}
noncomputable def OutIs (env : Env) (h₀ : Heap) (O₀ : Addr → Prop) (ρ : List (Str × Ent)) (h : Heap) : Out → Flow → Heap → Prop
  | .next ρ', fl, h' => fl = .next ∧ FS env h₀ O₀ ρ' h' ∧ Step env ρ h ρ' h'
  | .ret d, fl, h' => ∃ v, fl = .ret v ∧ Kp h₀ h' ∧ Rep O₀ h' v d
/-- a statement | statements -/
structure XT (c : Cx) (k : Nat) (env : Env) (O₀ : Addr → Prop) (ρ : List (Str × Ent)) (st : Stmt) (r : Out) : Prop where
  run : ∀ (A : Around) (s : Shared) (Q : Flow → Shared → Prop) (E : Value → Shared → Prop) (h₀ : Heap), AOk k A → Top c h₀ → FS env h₀ O₀ ρ s.heap →
    (∀ fl h' tk, OutIs env h₀ O₀ ρ s.heap r fl h' → Q fl { s with heap := h', toks := tk }) → wpAny (MM c) A (exec st env) Q E s
structure XS (c : Cx) (k : Nat) (env : Env) (O₀ : Addr → Prop) (ρ : List (Str × Ent)) (body : List Stmt) (r : Out) : Prop where
  run : ∀ (A : Around) (s : Shared) (Q : Flow → Shared → Prop) (E : Value → Shared → Prop) (h₀ : Heap), AOk k A → Top c h₀ → FS env h₀ O₀ ρ s.heap →
    (∀ fl h' tk, OutIs env h₀ O₀ ρ s.heap r fl h' → Q fl { s with heap := h', toks := tk }) → wpAny (MM c) A (execs body env) Q E s

theorem XS.nil : XS c k env O₀ ρ [] (.next ρ) := .mk fun A s Q E h₀ a T F h => wpAny_execs_nil (h .next s.heap s.toks ⟨rfl, F, Step.refl⟩)
theorem OutIs.trans {r : Out} {fl : Flow} (x : Step env ρ h ρ₁ h1) (y : OutIs env h₀ O₀ ρ₁ h1 r fl h2) : OutIs env h₀ O₀ ρ h r fl h2 := by
  cases r with
  | next ρ' => obtain ⟨a, b, d⟩ := y; exact ⟨a, b, x.trans d⟩
  | ret d => exact y
theorem XS.seq {st : Stmt} {rest : List Stmt} {r : Out} (h1 : XT c k env O₀ ρ st (.next ρ₁)) (h2 : XS c k env O₀ ρ₁ rest r) : XS c k env O₀ ρ (st :: rest) r := by
  refine .mk ?_
  intro A s Q E h₀ a T F h
  refine wpAny_execs_cons (h1.run A s _ E h₀ a T F fun fl h' tk o => ?_)
  obtain ⟨rfl, F1, S1⟩ := o
  exact h2.run A _ Q E h₀ a T F1 fun fl h'' tk' o' => h fl h'' tk' (OutIs.trans S1 o')
theorem XS.stop {st : Stmt} {rest : List Stmt} {d : D} (h1 : XT c k env O₀ ρ st (.ret d)) : XS c k env O₀ ρ (st :: rest) (.ret d) := by
  refine .mk ?_
  intro A s Q E h₀ a T F h
  refine wpAny_execs_cons (h1.run A s _ E h₀ a T F fun fl h' tk o => ?_)
  obtain ⟨v, rfl, o2⟩ := o
  exact h _ h' tk ⟨v, rfl, o2⟩
end
end Mine
end
section -- W7
open PySem PySem.W PyProof.Rows PySem.Calls
set_option Elab.async false
set_option linter.all false
namespace Mine
section
variable {c : Cx} {k : Nat} {env : Env} {O₀ : Addr → Prop} {ρ ρ₁ ρ₂ : List (Str × Ent)} {h₀ h h' h1 h2 h3 : Heap}
/-- the name may be stored -/
noncomputable abbrev StoreOk (env : Env) (x : Str) : Prop := env.kindOf x = some .local ∨ (env.kindOf x = some .cell ∧ ∃ a, env.cells.lookup x = some a)

theorem FS.storeS {x : Str} {e : Ent} {v : Value} {h1 : Heap} {A : Around} {s : Shared} {Q : Unit → Shared → Prop} {E : Value → Shared → Prop} (F : FS env h₀ O₀ ρ h1) (k1 : Kp h1 s.heap) (hsz : h1.objs.size ≤ s.heap.objs.size)
    (hx : StoreOk env x) (he : EntNew (OwnO O₀ ρ) h1 s.heap v e) (hnd : (ownAddrs (setV ρ x e)).Nodup)
    (h : ∀ h' tk, FS env h₀ O₀ (setV ρ x e) h' → Step env ρ h1 (setV ρ x e) h' → Q () { s with heap := h', toks := tk }) : wpAny (MM c) A (storeName env x v) Q E s := by
  have F2 := F.kp k1
  have alive := he.alive
  obtain ⟨m, hm⟩ := F2.ns
  have key : ∀ h' tk, (∃ b0, Heap.SameBut b0 s.heap h' ∧ (b0 = env.locals ∨ env.cells.lookup x = some b0)) → FS env h₀ O₀ (setV ρ x e) h' → Q () { s with heap := h', toks := tk } := by
    rintro h' tk ⟨b0, hs, hb⟩ F'
    refine h h' tk F' ⟨fun b o n1 n2 n3 e2 => (hs.2 b ?_).trans (k1 b o e2), fun a ha => ?_, by rw [hs.1]; exact hsz⟩
    · rintro rfl
      rcases hb with q | q
      · exact n1 q
      · exact n2 _ q
    · rcases setV_own ha with q | q
      · exact .inr (alive a q).1
      · exact .inl q
  rcases hx with hl | ⟨hl, a, ha⟩
  · refine wpAny_storeName_local hl hm (fun h' hn hs => key h' _ ⟨_, hs, .inl rfl⟩ (F.after k1 hs (.inl rfl) ⟨_, hn⟩ (fun n b e2 => ?_) (.inl ⟨hl, _, hn, by simp⟩) (fun y v' hne hv => ?_) he hnd)) ?_
    · obtain ⟨_, v, hc⟩ := F2.cellAb n b e2
      exact ⟨v, hc.sameBut hs (Ne.symm (ns_ne_cell hm hc))⟩
    · rcases hv with ⟨hl', m', hn', e2⟩ | ⟨hl', b, hb, hc⟩
      · exact .inl ⟨hl', _, hn, by simp only [hne, if_false]; rw [Ns.inj hm hn']; exact e2⟩
      · exact .inr ⟨hl', b, hb, hc.sameBut hs (Ne.symm (ns_ne_cell hm hc))⟩
    · rw [F.fr.kind]; rfl
  · obtain ⟨_, v0, hc0⟩ := F2.cellAb x a ha
    refine wpAny_storeName_cell F.fr.kind hl ha hc0 fun h' hv hs => key h' s.toks ⟨_, hs, .inr ha⟩ (F.after k1 hs (.inr ha) ⟨m, hm.sameBut hs (ns_ne_cell hm hc0)⟩ (fun n b e2 => ?_) (.inr ⟨hl, a, ha, hv⟩) (fun y v' hne hv' => ?_) he hnd)
    · by_cases q : b = a
      · subst q; exact ⟨_, hv⟩
      · obtain ⟨_, v, hc⟩ := F2.cellAb n b e2
        exact ⟨v, hc.sameBut hs q⟩
    · rcases hv' with ⟨hl', m', hn', e2⟩ | ⟨hl', b, hb, hc⟩
      · exact .inl ⟨hl', _, hn'.sameBut hs (ns_ne_cell hn' hc0), e2⟩
      · exact .inr ⟨hl', b, hb, hc.sameBut hs fun q => hne (F.cellAp y x a (q ▸ hb) ha)⟩

theorem FS.top (F : FS env h₀ O₀ ρ h) (T : Top c h₀) : Top c h := T.kp F.keep

theorem XT.assign {x : Str} {p pos : Pos} {e : Expr} {d : D} (he : EV c k env (OwnO O₀ ρ) ρ e d) (hx : StoreOk env x)
    (hs : swapsWith e (some (.Name x p)) pos.line env = pure false := by rfl) : XT c k env O₀ ρ (.Assign [.Name x p] e pos) (.next (setV ρ x (.val d))) := by
  refine .mk ?_
  intro A s Q E h₀ a T F h
  refine wpAny_Assign_Name (wpAny_grows (he.run A s _ E a (F.top T) F.fr fun v h1 t1 k1 r1 hz => ?_)) hs
  exact F.storeS (e := .val d) (s := { s with heap := h1, toks := t1 }) k1 hz hx (show Rep _ _ _ _ from r1) (setV_val_nodup F.ownNd) fun h' tk F' S' => h .next h' tk ⟨rfl, F', S'⟩

/-- a new list -/
structure EVnew (c : Cx) (k : Nat) (env : Env) (O : Addr → Prop) (ρ : List (Str × Ent)) (e : Expr) (ds : List D) : Prop where
  run : ∀ (A : Around) (s : Shared) (Q : Value → Shared → Prop) (E : Value → Shared → Prop), AOk k A → Top c s.heap → FR env O ρ s.heap →
    (∀ a vs h' tk, Kp s.heap h' → s.heap.objs.size ≤ a → PlainL h' a vs.toArray → RepL O h' vs ds → Q (.ref a) { s with heap := h', toks := tk }) → wpAny (MM c) A (eval e env) Q E s
theorem EVnew.list {O : Addr → Prop} {pos : Pos} {es : List Expr} {ds : List D} (he : EVs c k env O ρ pos es ds) (hz : ds.length ≤ 16777216 := by decide) : EVnew c k env O ρ (.List es pos) ds := .mk fun A s Q E a T F h =>
  wpAny_List (wpAny_grows (he.run A s _ E a T F fun vs h1 t1 k1 r1 hs => ⟨by rw [r1.length, sizeLine_eq]; exact hz, h _ vs _ _ (k1.trans Kp.push) hs ⟨_, _, Heap.get?_push_size _ rfl, rfl, rfl, rfl⟩ (r1.kp Kp.push)⟩))
theorem setV_app_nodup {x : Str} {a : Addr} {ds : List D} : ∀ {ρ : List (Str × Ent)}, a ∉ ownAddrs ρ → (ownAddrs ρ).Nodup → (ownAddrs (setV ρ x (.app a ds))).Nodup
  | [], _, _ => by simp [setV, ownAddrs, Ent.addr]
  | (z, g) :: r, ha, hn => by
    unfold setV
    split
    · unfold ownAddrs at hn ha ⊢
      rw [List.filterMap_cons] at hn ha ⊢
      show (a :: List.filterMap _ r).Nodup
      simp only at hn ha
      cases hg : g.addr with
      | none => rw [hg] at hn ha; exact List.nodup_cons.mpr ⟨ha, hn⟩
      | some b => rw [hg] at hn ha; exact List.nodup_cons.mpr ⟨fun q => ha (List.mem_cons_of_mem _ q), (List.nodup_cons.mp hn).2⟩
    · have ih := fun h1 h2 => setV_app_nodup (x := x) (a := a) (ds := ds) (ρ := r) h1 h2
      unfold ownAddrs at hn ha ⊢
      rw [List.filterMap_cons] at hn ha ⊢
      simp only at hn ha ⊢
      cases hg : g.addr with
      | none => rw [hg] at hn ha; exact ih ha hn
      | some b =>
        rw [hg] at hn ha
        simp only at hn ha ⊢
        obtain ⟨h1, h2⟩ := List.nodup_cons.mp hn
        refine List.nodup_cons.mpr ⟨fun h => ?_, ih (fun q => ha (List.mem_cons_of_mem _ q)) h2⟩
        rcases setV_own h with q | q
        · have : a = b := by simpa [Ent.addr] using q
          exact ha (this ▸ List.mem_cons_self)
        · exact h1 q
theorem own_alive (F : FS env h₀ O₀ ρ h) {a : Addr} (ha : a ∈ ownAddrs ρ) : ∃ o, h.get? a = some o ∧ ∃ vs n, o.data = .seq vs n := by
  obtain ⟨p, hp, hq⟩ := List.mem_filterMap.mp ha
  obtain ⟨v', _, he'⟩ := F.fr.vars p.1 p.2 hp
  exact he'.alive a hq
theorem XS.assignApp {x : Str} {p pos : Pos} {e : Expr} {ds : List D} {rest : List Stmt} {r : Out} (he : EVnew c k env (OwnO O₀ ρ) ρ e ds) (hx : StoreOk env x) (hf : ∀ d ∈ ds, d.flat = true)
    (hr : ∀ a, XS c k env O₀ (setV ρ x (.app a ds)) rest r)
    (hs : swapsWith e (some (.Name x p)) pos.line env = pure false := by rfl) : XS c k env O₀ ρ (.Assign [.Name x p] e pos :: rest) r := by
  refine .mk ?_
  intro A s Q E h₀ ao T F h
  refine wpAny_execs_cons (wpAny_Assign_Name (wpAny_grows (he.run A s _ E ao (F.top T) F.fr fun a vs h1 t1 k1 hn hp r1 hz => ?_)) hs)
  refine F.storeS (e := .app a ds) (s := { s with heap := h1, toks := t1 }) k1 hz hx ⟨rfl, hn, hf, vs, hp, r1⟩ (setV_app_nodup (fun q => ?_) F.ownNd) fun h' tk F' S' => ?_
  · obtain ⟨o, e2, _⟩ := own_alive F q
    exact absurd (Heap.lt_size e2) (Nat.not_lt.mpr hn)
  · exact (hr a).run A { s with heap := h', toks := tk } Q E h₀ ao T F' fun fl h'' tk' o' => h fl h'' tk' (OutIs.trans S' o')


/-- a comparison of two data -/
structure CMP (c : Cx) (k : Nat) (op : CmpOp) (dl dr : D) (b : Bool) : Prop where
  run : ∀ (A : Around) (s : Shared) (Q : Value → Shared → Prop) (E : Value → Shared → Prop) (O : Addr → Prop) (vl vr : Value), AOk k A → Top c s.heap → Rep O s.heap vl dl → Rep O s.heap vr dr →
    Q (.bool b) s → wpAny (MM c) A (compareOp op vl vr) Q E s
theorem EV.cmp {O : Addr → Prop} {l r : Expr} {op : CmpOp} {p : Pos} {dl dr : D} {b : Bool} (hl : EV c k env O ρ l dl) (hr : EV c k env O ρ r dr) (ho : CMP c k op dl dr b) (hm : behindInMarks op r = false := by rfl) :
    EV c k env O ρ (.Compare l [op] [r] p) (.bool b) := .mk fun A s Q E a T F h =>
  wpAny_Compare1 (hl.run A s _ E a T F fun vl h1 t1 k1 r1 => hr.run A _ _ E a (T.kp k1) (F.kp k1) fun vr h2 t2 k2 r2 =>
    ho.run A _ Q E O vl vr a ((T.kp k1).kp k2) (r1.kp k2) r2 (h _ h2 t2 (k1.trans k2) (.bool b))) hm
theorem EB.cmp {O : Addr → Prop} {l r : Expr} {op : CmpOp} {p : Pos} {dl dr : D} {b : Bool} (hl : EV c k env O ρ l dl) (hr : EV c k env O ρ r dr) (ho : CMP c k op dl dr b) (hm : behindInMarks op r = false := by rfl) :
    EB c k env O ρ (.Compare l [op] [r] p) b := .mk fun A s Q E a T F h =>
  wpAny_isTrue_Compare1 (hl.run A s _ E a T F fun vl h1 t1 k1 r1 => hr.run A _ _ E a (T.kp k1) (F.kp k1) fun vr h2 t2 k2 r2 =>
    ho.run A _ _ E O vl vr a ((T.kp k1).kp k2) (r1.kp k2) r2 (wpAny_truthy_bool (h h2 t2 (k1.trans k2)))) hm
theorem CMP.gt {a b : Int} : CMP c k .Gt (.int a) (.int b) (decide (b < a)) := by
  refine .mk ?_
  intro A s Q E O vl vr ao T x y h
  cases x; cases y
  exact gt_int h
theorem CMP.eqInt {a b : Int} : CMP c k .Eq (.int a) (.int b) (a == b) := by
  refine .mk ?_
  intro A s Q E O vl vr ao T x y h
  cases x; cases y
  exact eq_int h
theorem CMP.isNone {d : D} : CMP c k .Is d .none (match d with | .none => true | _ => false) := by
  refine .mk ?_
  intro A s Q E O vl vr ao T x y h
  cases y
  refine is_none ?_
  cases x <;> exact h
theorem CMP.isNotNone {d : D} : CMP c k .IsNot d .none (match d with | .none => false | _ => true) := by
  refine .mk ?_
  intro A s Q E O vl vr ao T x y h
  cases y
  refine isNot_none ?_
  cases x <;> exact h
theorem EV.or {O : Addr → Prop} {l r : Expr} {p : Pos} {a b : Bool} (hl : EV c k env O ρ l (.bool a)) (hr : a = false → EV c k env O ρ r (.bool b)) : EV c k env O ρ (.BoolOp .Or [l, r] p) (.bool (a || b)) := .mk fun A s Q E ao T F h =>
  wpAny_Or2 (hl.run A s _ E ao T F fun vl h1 t1 k1 r1 => by
    cases r1
    refine wpAny_truthy_bool ?_
    cases a with
    | true => exact h _ h1 t1 k1 (.bool true)
    | false => exact (hr rfl).run A _ Q E ao (T.kp k1) (F.kp k1) fun vr h2 t2 k2 r2 => h _ h2 t2 (k1.trans k2) r2)
theorem EB.or {O : Addr → Prop} {l r : Expr} {p : Pos} {a b : Bool} (hl : EB c k env O ρ l a) (hr : a = false → EB c k env O ρ r b) : EB c k env O ρ (.BoolOp .Or [l, r] p) (a || b) := .mk fun A s Q E ao T F h =>
  wpAny_isTrue_BoolOp (wpAny_allTrue_Or_cons (hl.run A s _ E ao T F fun h1 t1 k1 => by
    cases a with
    | true => exact h h1 t1 k1
    | false => exact wpAny_allTrue_Or_cons ((hr rfl).run A _ _ E ao (T.kp k1) (F.kp k1) fun h2 t2 k2 => by
        cases b with
        | true => exact h h2 t2 (k1.trans k2)
        | false => exact wpAny_allTrue_Or_nil (h h2 t2 (k1.trans k2)))))
theorem EB.or3 {O : Addr → Prop} {l m r : Expr} {p : Pos} {a b d : Bool} (hl : EB c k env O ρ l a) (hm : a = false → EB c k env O ρ m b) (hr : a = false → b = false → EB c k env O ρ r d) : EB c k env O ρ (.BoolOp .Or [l, m, r] p) (a || b || d) := .mk fun A s Q E ao T F h =>
  wpAny_isTrue_BoolOp (wpAny_allTrue_Or_cons (hl.run A s _ E ao T F fun h1 t1 k1 => by
    cases a with
    | true => exact h h1 t1 k1
    | false => exact wpAny_allTrue_Or_cons ((hm rfl).run A _ _ E ao (T.kp k1) (F.kp k1) fun h2 t2 k2 => by
        cases b with
        | true => exact h h2 t2 (k1.trans k2)
        | false => exact wpAny_allTrue_Or_cons ((hr rfl rfl).run A _ _ E ao ((T.kp k1).kp k2) ((F.kp k1).kp k2) fun h3 t3 k3 => by
            cases d with
            | true => exact h h3 t3 ((k1.trans k2).trans k3)
            | false => exact wpAny_allTrue_Or_nil (h h3 t3 ((k1.trans k2).trans k3))))))
theorem EB.val {O : Addr → Prop} {e : Expr} {b : Bool} (he : EV c k env O ρ e (.bool b)) (ht : isTrue e env (eval e env) = (do let v ← eval e env; standAt e.pos; holding [v] (truthy v)) := by rfl) : EB c k env O ρ e b :=
  .mk fun A s Q E a T F h => wpAny_isTrue_value (he.run A s _ E a T F fun v h1 t1 k1 r1 => by cases r1; exact wpAny_truthy_bool (h h1 t1 k1)) ht
theorem EB.not {O : Addr → Prop} {e : Expr} {p : Pos} {b : Bool} (he : EB c k env O ρ e b) : EB c k env O ρ (.UnaryOp .Not e p) (!b) :=
  .mk fun A s Q E a T F h => wpAny_isTrue_Not (he.run A s _ E a T F fun h1 t1 k1 => h h1 t1 k1)
theorem XT.iff {t : Expr} {body orelse : List Stmt} {pos : Pos} {b : Bool} {r : Out} (ht : EB c k env (OwnO O₀ ρ) ρ t b) (h1 : b = true → XS c k env O₀ ρ body r) (h2 : b = false → XS c k env O₀ ρ orelse r) : XT c k env O₀ ρ (.If t body orelse pos) r := by
  refine .mk ?_
  intro A s Q E h₀ a T F h
  refine wpAny_If (wpAny_grows (ht.run A s _ E a (F.top T) F.fr fun h' tk k1 hz => ?_))
  have S1 : Step env ρ s.heap ρ h' := k1.step hz
  cases b with
  | true => exact (h1 rfl).run A _ Q E h₀ a T (F.kp k1) fun fl h'' tk' o' => h fl h'' tk' (OutIs.trans S1 o')
  | false => exact (h2 rfl).run A _ Q E h₀ a T (F.kp k1) fun fl h'' tk' o' => h fl h'' tk' (OutIs.trans S1 o')
noncomputable def freeze (ρ : List (Str × Ent)) : List (Str × Ent) := ρ.map fun p => (p.1, match p.2 with | .val d => .val d | .own _ ds => .val (.list ds) | .app _ ds => .val (.list ds))
theorem FS.freeze (F : FS env h₀ O₀ ρ h) : FR env O₀ (freeze ρ) h := by
  refine ⟨F.fr.kind, F.fr.glob, F.fr.blt, fun x e hm => ?_, fun a ha => F.fr.ob a (.inl ha)⟩
  obtain ⟨⟨y, f⟩, hp, hq⟩ := List.mem_map.mp hm
  cases hq
  obtain ⟨v, hv, he⟩ := F.fr.vars y f hp
  refine ⟨v, hv, ?_⟩
  cases f with
  | val d => exact Rep.sub he fun a q => .inl q
  | own a ds =>
    obtain ⟨rfl, o, f, vs, hl, hr⟩ := he
    exact .list hl (fun q => absurd (F.o0 _ q) (Nat.not_lt.mpr (F.ownAb _ (addr_own hp rfl)))) (hr.any f)
  | app a ds =>
    obtain ⟨rfl, o, f, vs, hl, hr⟩ := he
    exact .list (PlainL.isList' hl) (fun q => absurd (F.o0 _ q) (Nat.not_lt.mpr (F.ownAb _ (addr_own hp rfl)))) (hr.any f)
theorem XT.ret {e : Expr} {pos : Pos} {d : D} (he : EV c k env O₀ (freeze ρ) e d) : XT c k env O₀ ρ (.Return (some e) pos) (.ret d) := by
  refine .mk ?_
  intro A s Q E h₀ a T F h
  exact wpAny_Return_some (he.run A s _ E a (F.top T) F.freeze fun v h1 t1 k1 r1 => h _ h1 t1 ⟨v, rfl, F.keep.trans k1, r1⟩)
end
end Mine
end
section -- W8
open PySem PySem.W PyProof.Rows PySem.Calls
set_option Elab.async false
set_option linter.all false
namespace Mine
section
variable {c : Cx} {k : Nat}
theorem bindL_other {kindOf : Str → Option NameKind} : ∀ {l : List (Str × Value)} {m : Str → Option Value} {x : Str}, x ∉ l.map (·.1) → bindL kindOf l m x = m x
  | [], _, _, _ => rfl
  | (n, v) :: r, m, x, h => by
    rw [List.map_cons, List.mem_cons, not_or] at h
    unfold bindL
    rw [bindL_other h.2]
    split
    · simp [h.1]
    · rfl
theorem bindC_other {kindOf : Str → Option NameKind} : ∀ {l : List (Str × Value)} {m : Str → Option Value} {x : Str}, x ∉ l.map (·.1) → bindC kindOf l m x = m x
  | [], _, _, _ => rfl
  | (n, v) :: r, m, x, h => by
    rw [List.map_cons, List.mem_cons, not_or] at h
    unfold bindC
    rw [bindC_other h.2]
    split
    · rfl
    · simp [h.1]
theorem bindL_mem {kindOf : Str → Option NameKind} : ∀ {l : List (Str × Value)} {m : Str → Option Value} {x : Str} {v : Value}, (l.map (·.1)).Nodup → (x, v) ∈ l → kindOf x = some .local → bindL kindOf l m x = some v
  | (n, u) :: r, m, x, v, hn, h, hk => by
    rw [List.map_cons, List.nodup_cons] at hn
    unfold bindL
    rcases List.mem_cons.mp h with q | q
    · cases q
      rw [bindL_other hn.1, hk]; simp
    · exact bindL_mem hn.2 q hk
theorem bindC_mem {kindOf : Str → Option NameKind} : ∀ {l : List (Str × Value)} {m : Str → Option Value} {x : Str} {v : Value}, (l.map (·.1)).Nodup → (x, v) ∈ l → kindOf x ≠ some .local → bindC kindOf l m x = some v
  | (n, u) :: r, m, x, v, hn, h, hk => by
    rw [List.map_cons, List.nodup_cons] at hn
    unfold bindC
    rcases List.mem_cons.mp h with q | q
    · cases q
      rw [bindC_other hn.1, if_neg hk]; simp
    · exact bindC_mem hn.2 q hk
/-- the frame's cells, by their order -/
theorem cells_some : ∀ (names : List (Str × NameKind)) (n : Nat) (acc : List (Str × Addr)) (x : Str), ((names.any fun y => y.1 == x && y.2 == .cell) = true ∨ ∃ a, acc.lookup x = some a) → ∃ a, (cellsFrom n names acc).lookup x = some a
  | [], n, acc, x, h => by
    rcases h with h | h
    · simp at h
    · exact h
  | (m, kd) :: r, n, acc, x, h => by
    unfold cellsFrom
    by_cases hk : (kd == NameKind.cell) = true
    · rw [if_pos hk]
      refine cells_some r _ _ x ?_
      by_cases q : (x == m) = true
      · exact .inr ⟨n, by rw [List.lookup_cons, q]⟩
      · rcases h with h | ⟨a, h⟩
        · simp only [List.any_cons, Bool.or_eq_true, Bool.and_eq_true] at h
          rcases h with h | h
          · exact absurd (by simpa using (by simpa using h.1 : m = x).symm) q
          · exact .inl h
        · refine .inr ⟨a, ?_⟩
          simp only [Bool.not_eq_true] at q
          rw [List.lookup_cons, q]; exact h
    · rw [if_neg hk]
      refine cells_some r _ _ x ?_
      rcases h with h | h
      · simp only [List.any_cons, Bool.or_eq_true, Bool.and_eq_true] at h
        rcases h with h | h
        · exact absurd h.2 hk
        · exact .inl h
      · exact .inr h
theorem cells_of {scope : Scope} {x : Str} {n : Nat} (h : scope.names.lookup x = some .cell) : ∃ a, (cellsFrom n scope.names []).lookup x = some a :=
  cells_some _ _ _ _ (.inl (List.any_eq_true.mpr ⟨_, mem_of_lookup h, by simp⟩))

noncomputable def ParamOk (scope : Scope) (x : Str) : Prop := scope.names.lookup x = some .local ∨ scope.names.lookup x = some .cell
theorem zip_reps {O : Addr → Prop} {h : Heap} : ∀ {xs : List Str} {vs : List Value} {ds : List D}, RepL O h vs ds → ∀ {x : Str} {e : Ent}, (x, e) ∈ xs.zip (ds.map Ent.val) → ∃ v, (x, v) ∈ xs.zip vs ∧ EntIs O h v e
  | [], _, _, _, x, e, hm => by simp at hm
  | y :: xs, _, _, .nil, x, e, hm => by simp at hm
  | y :: xs, v :: vs, d :: ds, .cons a b, x, e, hm => by
    rw [List.map_cons, List.zip_cons_cons] at hm
    rcases List.mem_cons.mp hm with q | q
    · cases q; exact ⟨v, by rw [List.zip_cons_cons]; exact List.mem_cons_self, a⟩
    · obtain ⟨v', h1, h2⟩ := zip_reps b q
      exact ⟨v', by rw [List.zip_cons_cons]; exact List.mem_cons_of_mem _ h1, h2⟩
theorem zip_own : ∀ (xs : List Str) (ds : List D), ownAddrs (xs.zip (ds.map Ent.val)) = []
  | [], _ => by simp [ownAddrs]
  | _ :: _, [] => by simp [ownAddrs]
  | x :: xs, d :: ds => by
    have := zip_own xs ds
    unfold ownAddrs at this ⊢
    rw [List.map_cons, List.zip_cons_cons, List.filterMap_cons]
    exact this
theorem zip_names {α : Type} : ∀ {xs : List Str} {l : List α}, xs.length = l.length → (xs.zip l).map (·.1) = xs
  | [], [], _ => rfl
  | x :: xs, a :: l, h => by rw [List.zip_cons_cons, List.map_cons, zip_names (by simpa using h)]
/-- a def of the text -/
structure Fn (c : Cx) (a : Addr) (name : Str) (xs : List Str) (body : List Stmt) (scope : Scope) : Prop where
  def_ : ∃ o params pm cd doc, c.K.lookup a = some o ∧ o.data = .func (docDef name params body scope pm cd doc) ∧ (∀ h, Top c h → h.CodeRec cd name) ∧
    ∀ vs : List Value, vs.length = xs.length → bindArgs (docDef name params body scope pm cd doc) ⟨vs, []⟩ = pure (xs.zip vs)
  params : ∀ x ∈ xs, ParamOk scope x
  nd : xs.Nodup
  co : scope.isCoroutine = false
  gen : scope.isGenerator = false
  kind : scope.kind = .function

theorem Fn.enter {a : Addr} {name : Str} {xs : List Str} {body : List Stmt} {scope : Scope} {ds : List D} {d : D} (X : Fn c a name xs body scope) (hl : xs.length = ds.length)
    (hb : ∀ (O₀ : Addr → Prop) (L : Addr) (cd : Value), XS c k (envOfC name scope L a cd) O₀ (xs.zip (ds.map .val)) body (.ret d)) : CALL c (k + 1) (.ref a) ds d := by
  refine .mk ?_
  intro A s Q E O vs ao T ob r h
  obtain ⟨o, params, pm, cd, doc, hK, hd, hcd, hbind⟩ := X.def_
  have hvl : vs.length = xs.length := by rw [r.length, hl]
  have hzn : (xs.zip vs).map (·.1) = xs := zip_names hvl.symm
  refine wpAny_call ?_
  refine call_cells_ret (by have := ao.depth; omega) (T.k _ _ hK) hd T.lim (hcd _ T) (hbind vs hvl) (fun x hx => ?_) (fun h₁ tk F C => ?_) X.co X.gen X.kind
  · have hx' : x.1 ∈ xs := hzn ▸ List.mem_map.mpr ⟨x, hx, rfl⟩
    rcases X.params _ hx' with q | q
    · exact .inl q
    · obtain ⟨b, hb⟩ := cells_of (n := s.heap.objs.size + 1) q
      exact .inr ⟨q, by rw [hb]; rfl⟩
  · have ao' : AOk k (A.deeper (envOfC name scope s.heap.objs.size a cd)) := ⟨ao.handled, by have := ao.depth; show A.depth + 1 + k < _; omega, by have := ao.units; show A.units + 3 + 20 * k + 20 < _; omega⟩
    have FSx : FS (envOfC name scope s.heap.objs.size a cd) s.heap O (xs.zip (ds.map .val)) h₁ := by
      refine ⟨⟨X.kind, rfl, rfl, fun x e hm => ?_, fun b hb => ?_⟩, F.keep, ⟨_, F.ns⟩, Nat.le_refl _, fun n b e2 => ?_, fun n n' b e1 e2 => ?_, ?_, ?_, ?_, fun b hb => ?_⟩
      · obtain ⟨v, hv, he⟩ := zip_reps r hm
        have hx' : x ∈ xs := hzn ▸ List.mem_map.mpr ⟨_, hv, rfl⟩
        refine ⟨v, ?_, ?_⟩
        · rcases X.params _ hx' with q | q
          · exact .inl ⟨q, _, F.ns, bindL_mem (by rw [hzn]; exact X.nd) hv q⟩
          · obtain ⟨b, hb⟩ := cells_of (n := s.heap.objs.size + 1) q
            have hc := C.cell x b hb
            have q' : (envOfC name scope s.heap.objs.size a cd).kindOf x = some .cell := q
            rw [bindC_mem (by rw [hzn]; exact X.nd) hv (by rw [q']; intro z; cases z)] at hc
            exact .inr ⟨q, b, hb, hc⟩
        · have hh := he.kp F.keep
          cases e with
          | val d =>
            refine Rep.sub hh fun b q => ?_
            rcases q with q | q
            · exact q
            · rw [zip_own] at q; cases q
          | own b ds' => have := addr_own hm (a := b) rfl; rw [zip_own] at this; cases this
          | app b ds' => have := addr_own hm (a := b) rfl; rw [zip_own] at this; cases this
      · rcases hb with q | q
        · obtain ⟨o, e⟩ := ob b q
          exact ⟨o, F.keep _ _ e⟩
        · rw [zip_own] at q; cases q
      · exact ⟨Nat.le_of_lt (C.above n b (mem_of_lookup e2)), _, C.cell n b e2⟩
      · exact name_of_addr C.apart (mem_of_lookup e1) (mem_of_lookup e2)
      · intro b hb; rw [zip_own] at hb; cases hb
      · rw [zip_own]; exact List.nodup_nil
      · rw [zip_names (by simp [hl])]; exact X.nd
      · obtain ⟨o, e⟩ := ob b hb
        exact Heap.lt_size e
    refine (hb O s.heap.objs.size cd).run _ _ _ _ s.heap ao' T FSx fun fl h' tk' oi => ?_
    obtain ⟨v, rfl, kp, rv⟩ := oi
    exact h v h' tk' kp rv
end
end Mine
end
section -- A1
open PySem PySem.W PyProof.Rows PySem.Calls
set_option Elab.async false
set_option linter.all false
namespace Mine
noncomputable def stAt (i : Nat) : Stmt := (PySem.Challenge.pw_wj0045_01.main.body[i]?).getD (.Pass default)
noncomputable def bodyAt (i : Nat) : List Stmt := match stAt i with | .FunctionDef _ _ b _ _ _ _ _ _ _ => b | _ => []
noncomputable def scopeAt (i : Nat) : Scope := match stAt i with | .FunctionDef _ _ _ _ _ _ sc _ _ _ => sc | _ => default
noncomputable def paramsAt (i : Nat) : Arguments := match stAt i with | .FunctionDef _ a _ _ _ _ _ _ _ _ => a | _ => default
end Mine
end
section -- W9
open PySem PySem.W PyProof.Rows PySem.Calls
set_option Elab.async false
set_option linter.all false
namespace Mine
section
variable {c : Cx} {k : Nat} {env : Env} {O₀ : Addr → Prop} {ρ ρ₁ ρ₂ : List (Str × Ent)} {h₀ h h' h1 h2 h3 : Heap}
/-- a change of iterators alone -/
theorem FS.skip {wr : List Addr} (F : FS env h₀ O₀ ρ h) (hk : ∀ b o, b ∉ wr → h.get? b = some o → h'.get? b = some o) (hw : ∀ b ∈ wr, ∃ o, h.get? b = some o ∧ Off o) (hn : ∀ b ∈ wr, h₀.objs.size ≤ b) : FS env h₀ O₀ ρ h' := by
  have nodict : ∀ {b : Addr} {o : Obj}, h.get? b = some o → (Listy o ∨ (∃ es ep, o.data = .dict es ep) ∨ (∃ v, o.data = .cell v)) → h'.get? b = some o := fun {b o} e q => hk b o (fun hb => by
    obtain ⟨o', e', f1, f2, f3⟩ := hw b hb
    rw [e] at e'; cases e'
    rcases q with q | ⟨es, ep, q⟩ | ⟨v, q⟩
    · exact f1 q
    · exact f2 _ _ q
    · exact f3 _ q) e
  have nsk : ∀ {L : Addr} {m : Str → Option Value}, h.Ns L m → h'.Ns L m := fun {L m} ⟨o, es, ep, e, hd, r⟩ => ⟨o, es, ep, nodict e (.inr (.inl ⟨_, _, hd⟩)), hd, r⟩
  have clk : ∀ {a : Addr} {v : Option Value}, h.IsCell a v → h'.IsCell a v := fun {a v} ⟨o, e, hd⟩ => ⟨o, nodict e (.inr (.inr ⟨_, hd⟩)), hd⟩
  have alive : ∀ {a : Addr} {o : Obj}, h.get? a = some o → a ∉ wr → h'.get? a = some o := fun e q => hk _ _ q e
  refine ⟨⟨F.fr.kind, F.fr.glob, F.fr.blt, fun x e hm => ?_, fun a ha => ?_⟩, fun b o e => ?_, ?_, F.above, fun n a e => ?_, F.cellAp, F.ownAb, F.ownNd, F.nd, F.o0⟩
  · obtain ⟨v, hv, he⟩ := F.fr.vars x e hm
    refine ⟨v, hv.imp (fun ⟨a, m, n, q⟩ => ⟨a, m, nsk n, q⟩) (fun ⟨a, b, l, q⟩ => ⟨a, b, l, clk q⟩), ?_⟩
    cases e with
    | val d => exact Rep.mono (fun b o e f => ⟨nodict e (.inl f.2), f.1.2.2⟩) he
    | own a ds => obtain ⟨e1, e2, e3, vs, ⟨o, e4, hc, r⟩, hr⟩ := he; exact ⟨e1, e2, e3, vs, ⟨o, nodict e4 (.inl (.inl hc)), hc, r⟩, hr.any e3⟩
    | app a ds => obtain ⟨e1, e2, e3, vs, ⟨o, n, e4, hc, r⟩, hr⟩ := he; exact ⟨e1, e2, e3, vs, ⟨o, n, nodict e4 (.inl (.inl hc)), hc, r⟩, hr.any e3⟩
  · obtain ⟨o, e⟩ := F.fr.ob a ha
    refine ⟨o, alive e fun hb => ?_⟩
    rcases ha with q | q
    · exact absurd (F.o0 a q) (Nat.not_lt.mpr (hn a hb))
    · obtain ⟨p, hp, hq⟩ := List.mem_filterMap.mp q
      obtain ⟨v', _, he'⟩ := F.fr.vars p.1 p.2 hp
      obtain ⟨o', e', f1, _⟩ := hw a hb
      rw [e] at e'; cases e'
      generalize p.2 = f at hq he'
      cases f with
      | val d => cases hq
      | own b ds => cases hq; obtain ⟨_, _, _, vs, ⟨o'', e4, hc, _⟩, _⟩ := he'; rw [e] at e4; cases e4; exact f1 (.inl hc)
      | app b ds => cases hq; obtain ⟨_, _, _, vs, ⟨o'', n, e4, hc, _⟩, _⟩ := he'; rw [e] at e4; cases e4; exact f1 (.inl hc)
  · exact hk b o (fun hb => absurd (Heap.lt_size e) (Nat.not_lt.mpr (hn b hb))) (F.keep b o e)
  · obtain ⟨m, hm⟩ := F.ns
    exact ⟨m, nsk hm⟩
  · obtain ⟨a1, v, hc⟩ := F.cellAb n a e
    exact ⟨a1, v, clk hc⟩
theorem off_own (F : FS env h₀ O₀ ρ h) {a : Addr} (ha : a ∈ ownAddrs ρ) : ∃ o, h.get? a = some o ∧ o.cls = .type "list" := by
  obtain ⟨p, hp, hq⟩ := List.mem_filterMap.mp ha
  obtain ⟨v', _, he'⟩ := F.fr.vars p.1 p.2 hp
  generalize p.2 = f at hq he'
  cases f with
  | val d => cases hq
  | own b ds => cases hq; obtain ⟨_, _, _, vs, ⟨o'', e4, hc, _⟩, _⟩ := he'; exact ⟨_, e4, hc⟩
  | app b ds => cases hq; obtain ⟨_, _, _, vs, ⟨o'', n, e4, hc, _⟩, _⟩ := he'; exact ⟨_, e4, hc⟩
/-- an address that no statement of the frame turns -/
theorem foot0_apart (F : FS env h₀ O₀ ρ h) {b : Addr} {o : Obj} (e : h.get? b = some o) (f : Foot0 (OwnO O₀ ρ) b o) : b ≠ env.locals ∧ (∀ n, env.cells.lookup n ≠ some b) ∧ b ∉ ownAddrs ρ := by
  refine ⟨?_, fun n q => ?_, fun q => ?_⟩
  · rintro rfl
    obtain ⟨m, o', es, ep, e', hd, _⟩ := F.ns
    rw [e] at e'; cases e'
    exact f.1 _ _ hd
  · obtain ⟨_, v, o', e', hd⟩ := F.cellAb n b q
    rw [e] at e'; cases e'
    exact f.2.1 _ hd
  · obtain ⟨o', e', hc⟩ := off_own F q
    rw [e] at e'; cases e'
    exact f.2.2 hc (.inr q)

theorem XT.for_ {x : Str} {p pos : Pos} {iter : Expr} {body : List Stmt} {dv : D} {ds : List D} (st : Nat → List (Str × Ent)) (he : EV c k env (OwnO O₀ ρ) ρ iter dv) (hw : ITER c k (OwnO O₀ ρ) dv ds) (hx : StoreOk env x)
    (h0 : st 0 = ρ) (hb : ∀ i d, ds[i]? = some d → XS c k env O₀ (setV (st i) x (.val d)) body (.next (st (i + 1))))
    (hf : ∀ v, foldedSetIterable iter env v = pure v := by intro _; rfl) : XT c k env O₀ ρ (.For (.Name x p) iter body [] pos) (.next (st ds.length)) := by
  refine .mk ?_
  intro A s Q E h₀ a T F h
  refine wpAny_For (wpAny_grows (he.run A s _ E a (F.top T) F.fr fun v h1 t1 k1 r1 z1 => ?_)) hf
  have F1 := F.kp k1
  refine wpAny_grows (hw.run A _ _ E v a (F1.top T) F1.fr.ob r1 fun I fp wr P St h2 t2 k2 W st0 hfp hwr hoff hP z2 => ?_)
  have F2 := F1.kp k2
  have z12 : s.heap.objs.size ≤ h2.objs.size := Nat.le_trans z1 z2
  have hz1 : h₀.objs.size ≤ s.heap.objs.size := by
    obtain ⟨m, hm⟩ := F.ns
    exact Nat.le_trans F.above (Nat.le_of_lt hm.lt)
  have hwr0 : ∀ b ∈ wr, h₀.objs.size ≤ b := fun b hb => Nat.le_trans hz1 (Nat.le_trans z1 (hwr b hb))
  have W := W.bound
  have fpA : ∀ b ∈ fp, (b ≠ env.locals ∧ (∀ n, env.cells.lookup n ≠ some b) ∧ b ∉ ownAddrs ρ) ∧ b < h2.objs.size := fun b hb => by
    obtain ⟨o, e, f⟩ := hfp b hb
    exact ⟨foot0_apart F2 e f, Heap.lt_size e⟩
  refine codeAny_forLoop (fun n s' => ∃ i h' tk, s' = { s with heap := h', toks := tk } ∧ i ≤ ds.length ∧ n = ds.length + 1 - i ∧ St i h' ∧ FS env h₀ O₀ (st i) h' ∧
      (∀ b o, b ≠ env.locals → (∀ n, env.cells.lookup n ≠ some b) → b ∉ ownAddrs ρ → b ∉ wr → h2.get? b = some o → h'.get? b = some o) ∧ (∀ a ∈ ownAddrs (st i), a ∈ ownAddrs ρ ∨ h2.objs.size ≤ a) ∧ h2.objs.size ≤ h'.objs.size) ?_ (ds.length + 1)
    ⟨0, h2, t2, rfl, Nat.zero_le _, rfl, st0, by rw [h0]; exact F2, fun _ _ _ _ _ _ e => e, fun a ha => .inl (by rw [h0] at ha; exact ha), Nat.le_refl _⟩
  rintro n s' ⟨i, hI, tk, rfl, hi, rfl, hst, Fi, hkI, hoI, hzI⟩
  by_cases hlt : i < ds.length
  · refine wpAny_grows (W.item i _ _ _ hlt hst fun v' h3 t3 hPv hst3 hk3 z3 => ?_)
    obtain ⟨_, hPv⟩ := hPv
    obtain ⟨d, hd, hsc⟩ := hP i v' hPv
    have F3 := Fi.skip hk3 (hoff i _ hst) hwr0
    refine wpAny_assign_Name (F3.storeS (e := .val d) (s := { s with heap := h3, toks := t3 }) Kp.refl (Nat.le_refl _) hx (show Rep _ _ _ _ from hsc.rep _ _) (setV_val_nodup F3.ownNd) fun h4 t4 F4 S4 => ?_)
    have z3 : hI.objs.size ≤ h3.objs.size := z3
    have own4 : ∀ a ∈ ownAddrs (setV (st i) x (.val d)), a ∈ ownAddrs ρ ∨ h2.objs.size ≤ a := fun a ha => by
      rcases setV_own ha with q | q
      · cases q
      · exact hoI a q
    have hst4 : St (i + 1) h4 := W.frame _ _ _ hst3 fun b hb o e => by
      obtain ⟨⟨n1, n2, n3⟩, hl⟩ := fpA b hb
      exact S4.keep b o n1 n2 (fun q => (hoI b q).elim n3 fun z => absurd hl (Nat.not_lt.mpr z)) e
    refine (hb i d hd).run A { s with heap := h4, toks := t4 } _ _ h₀ a T F4 fun fl h5 t5 o5 => ?_
    obtain ⟨rfl, F5, S5⟩ := o5
    refine ⟨ds.length + 1 - (i + 1), by omega, i + 1, h5, t5, rfl, hlt, rfl, ?_, F5, fun b o n1 n2 n3 n4 e => ?_, fun a ha => ?_, ?_⟩
    · exact W.frame _ _ _ hst4 fun b hb o e => by
        obtain ⟨⟨n1, n2, n3⟩, hl⟩ := fpA b hb
        exact S5.keep b o n1 n2 (fun q => (own4 b q).elim n3 fun z => absurd hl (Nat.not_lt.mpr z)) e
    · have hl := Heap.lt_size e
      exact S5.keep b o n1 n2 (fun q => (own4 b q).elim n3 fun z => absurd hl (Nat.not_lt.mpr z)) (S4.keep b o n1 n2 (fun q => (hoI b q).elim n3 fun z => absurd hl (Nat.not_lt.mpr z)) (hk3 b o n4 (hkI b o n1 n2 n3 n4 e)))
    · have z4 := S4.size
      rcases S5.own a ha with q | q
      · exact own4 a q
      · exact .inr (by have : hI.objs.size ≤ h4.objs.size := Nat.le_trans z3 z4; have q : h4.objs.size ≤ a := q; omega)
    · have z4 := S4.size
      have z5 := S5.size
      have z4 : h3.objs.size ≤ h4.objs.size := z4
      have z5 : h4.objs.size ≤ h5.objs.size := z5
      omega
  · have hin : i = ds.length := by omega
    subst hin
    refine wpAny_grows (W.done _ _ _ hst fun h3 t3 hk3 z3 => ?_)
    have F3 := Fi.skip hk3 (hoff _ _ hst) hwr0
    refine wpAny_execs_nil (h .next h3 t3 ⟨rfl, F3, fun b o n1 n2 n3 e => ?_, fun a ha => ?_, ?_⟩)
    · have hl := Heap.lt_size e
      have nw : b ∉ wr := fun hb => absurd hl (Nat.not_lt.mpr (Nat.le_trans z1 (hwr b hb)))
      exact hk3 b o nw (hkI b o n1 n2 n3 nw (k2 b o (k1 b o e)))
    · rcases hoI a ha with q | q
      · exact .inl q
      · exact .inr (Nat.le_trans z12 q)
    · have z3 : hI.objs.size ≤ h3.objs.size := z3
      show s.heap.objs.size ≤ h3.objs.size
      omega
end
end Mine
end
section -- W10
open PySem PySem.W PyProof.Rows PySem.Calls
set_option Elab.async false
set_option linter.all false
namespace Mine
section
variable {c : Cx} {k : Nat} {env : Env} {O₀ O : Addr → Prop} {ρ ρ₁ ρ₂ : List (Str × Ent)} {h₀ h h' h1 h2 h3 : Heap}
theorem own_freeze : ∀ (ρ : List (Str × Ent)), ownAddrs (freeze ρ) = []
  | [] => rfl
  | (x, e) :: r => by
    have := own_freeze r
    unfold ownAddrs freeze at this ⊢
    rw [List.map_cons, List.filterMap_cons]
    cases e <;> exact this
theorem names_freeze (ρ : List (Str × Ent)) : (freeze ρ).map (·.1) = ρ.map (·.1) := by
  unfold freeze
  rw [List.map_map]
  rfl
theorem FS.freezeS (F : FS env h₀ O₀ ρ h) : FS env h₀ O₀ (Mine.freeze ρ) h := by
  have e : OwnO O₀ (Mine.freeze ρ) = O₀ := by
    funext a
    simp only [OwnO, own_freeze, List.not_mem_nil, or_false]
  refine ⟨by rw [e]; exact F.freeze, F.keep, F.ns, F.above, F.cellAb, F.cellAp, ?_, ?_, ?_, F.o0⟩
  · rw [own_freeze]; intro a ha; cases ha
  · rw [own_freeze]; exact List.nodup_nil
  · rw [names_freeze]; exact F.nd
theorem XS.freeze {body : List Stmt} {r : Out} (hb : XS c k env O₀ (Mine.freeze ρ) body r) : XS c k env O₀ ρ body r := by
  refine .mk ?_
  intro A s Q E h₀ a T F h
  refine hb.run A s Q E h₀ a T F.freezeS fun fl h' tk o => h fl h' tk ?_
  cases r with
  | next ρ' =>
    obtain ⟨o1, o2, o3⟩ := o
    exact ⟨o1, o2, ⟨fun b ob n1 n2 n3 e => o3.keep b ob n1 n2 (by rw [own_freeze]; exact fun q => nomatch q) e, fun b hb => (o3.own b hb).imp (fun q => by rw [own_freeze] at q; cases q) id, o3.size⟩⟩
  | ret d => exact o
theorem load_ent {x : Str} {e : Ent} {A : Around} {s : Shared} {Q : Value → Shared → Prop} {E : Value → Shared → Prop} (F : FR env O ρ s.heap) (hm : (x, e) ∈ ρ)
    (h : ∀ v, EntIs O s.heap v e → Q v s) : wpAny (MM c) A (loadName env x) Q E s := by
  obtain ⟨v, hv, he⟩ := F.vars _ _ hm
  rcases hv with ⟨hl, m, hn, e⟩ | ⟨hl, c, hc, e⟩
  · exact wpAny_loadName_local F.kind hl hn e (h v he)
  · exact wpAny_loadName_cell F.kind hl hc e (h v he)
theorem name_ent {x : Str} {p : Pos} {e : Ent} {A : Around} {s : Shared} {Q : Value → Shared → Prop} {E : Value → Shared → Prop} (F : FR env O ρ s.heap) (hm : (x, e) ∈ ρ)
    (h : ∀ v, EntIs O s.heap v e → Q v s) (hd : (x == ("__debug__" : Str)) = false := by decide +kernel) : wpAny (MM c) A (eval (.Name x p) env) Q E s :=
  wpAny_Name (load_ent F hm h) hd

/-- x op= e -/
theorem XT.aug {x : Str} {p pos : Pos} {op : Operator} {e : Expr} {d1 d2 d : D} (hm : (x, Ent.val d1) ∈ ρ) (he : EV c k env (OwnO O₀ ρ) ρ e d2) (hx : StoreOk env x)
    (hop : ∀ (A : Around) (s : Shared) (Q : Value → Shared → Prop) (E : Value → Shared → Prop) (O : Addr → Prop) (vl vr : Value), Rep O s.heap vl d1 → Rep O s.heap vr d2 →
      (∀ v tk, Rep O s.heap v d → Q v { s with toks := tk }) → wpAny (MM c) A (inplaceOp op vl vr) Q E s) : XT c k env O₀ ρ (.AugAssign (.Name x p) op e pos) (.next (setV ρ x (.val d))) := by
  refine .mk ?_
  intro A s Q E h₀ a T F h
  refine wpAny_AugAssign_Name (load_ent F.fr hm fun v1 r1 => wpAny_grows (he.run A s _ E a (F.top T) F.fr fun v2 h2 t2 k2 r2 hz => ?_))
  refine hop A { s with heap := h2, toks := t2 } _ E _ v1 v2 (Rep.kp r1 k2) r2 fun v tk r => ?_
  exact F.storeS (e := .val d) (s := { s with heap := h2, toks := tk }) k2 hz hx (show Rep _ _ _ _ from r) (setV_val_nodup F.ownNd) fun h' tk F' S' => h .next h' tk ⟨rfl, F', S'⟩
theorem XT.augInt {x : Str} {p pos : Pos} {e : Expr} {a b : Int} (hm : (x, Ent.val (.int a)) ∈ ρ) (he : EV c k env (OwnO O₀ ρ) ρ e (.int b)) (hx : StoreOk env x) : XT c k env O₀ ρ (.AugAssign (.Name x p) .Add e pos) (.next (setV ρ x (.val (.int (a + b))))) :=
  XT.aug hm he hx fun A s Q E O vl vr x y h => by cases x; cases y; exact PyProof.Rows.iadd_int (h _ _ (.int ..))
theorem XT.augStr {x : Str} {p pos : Pos} {e : Expr} {a b : List Nat} (hm : (x, Ent.val (.str a)) ∈ ρ) (he : EV c k env (OwnO O₀ ρ) ρ e (.str b)) (hx : StoreOk env x) (hz : a.length + b.length ≤ 16777216) :
    XT c k env O₀ ρ (.AugAssign (.Name x p) .Add e pos) (.next (setV ρ x (.val (.str (a ++ b))))) :=
  XT.aug hm he hx fun A s Q E O vl vr x y h => by
    cases x; cases y
    refine PyProof.Rows.iadd_str (fun t' tk => ?_) (by show a.toArray.size + b.toArray.size ≤ _; rw [sizeLine_eq]; simpa using hz)
    rw [str_app]
    exact h _ _ (.str ..)

/-- a while loop over states -/
theorem XT.while_ {t : Expr} {body : List Stmt} {pos : Pos} {r : Out} (st : Nat → List (Str × Ent)) (n : Nat) (h0 : st 0 = ρ)
    (hb : ∀ i, i < n → EB c k env (OwnO O₀ (st i)) (st i) t true ∧ XS c k env O₀ (st i) body (.next (st (i + 1))))
    (he : (EB c k env (OwnO O₀ (st n)) (st n) t false ∧ r = .next (st n)) ∨ (∃ d, EB c k env (OwnO O₀ (st n)) (st n) t true ∧ XS c k env O₀ (st n) body (.ret d) ∧ r = .ret d)) : XT c k env O₀ ρ (.While t body [] pos) r := by
  refine .mk ?_
  intro A s Q E h₀ a T F h
  refine wpAny_While (codeAny_whileLoop (fun m s' => ∃ i h' tk, s' = { s with heap := h', toks := tk } ∧ i ≤ n ∧ m = n - i ∧ FS env h₀ O₀ (st i) h' ∧ Step env ρ s.heap (st i) h') ?_ n
    ⟨0, s.heap, s.toks, rfl, Nat.zero_le _, rfl, by rw [h0]; exact F, by rw [h0]; exact Step.refl⟩)
  rintro m s' ⟨i, hI, tk, rfl, hi, rfl, Fi, Si⟩
  by_cases hlt : i < n
  · obtain ⟨h1, h2⟩ := hb i hlt
    refine wpAny_grows (h1.run A { s with heap := hI, toks := tk } _ _ a (Fi.top T) Fi.fr fun h3 t3 k3 z3 => ?_)
    refine h2.run A { s with heap := h3, toks := t3 } _ _ h₀ a T (Fi.kp k3) fun fl h4 t4 o4 => ?_
    obtain ⟨rfl, F4, S4⟩ := o4
    exact ⟨n - (i + 1), by omega, i + 1, h4, t4, rfl, hlt, rfl, F4, Si.trans ((k3.step z3).trans S4)⟩
  · have hi' : i = n := by omega
    subst hi'
    rcases he with ⟨h1, rfl⟩ | ⟨d, h1, h2, rfl⟩
    · refine wpAny_grows (h1.run A { s with heap := hI, toks := tk } _ _ a (Fi.top T) Fi.fr fun h3 t3 k3 z3 => ?_)
      exact wpAny_execs_nil (h .next h3 t3 ⟨rfl, Fi.kp k3, Si.trans (k3.step z3)⟩)
    · refine wpAny_grows (h1.run A { s with heap := hI, toks := tk } _ _ a (Fi.top T) Fi.fr fun h3 t3 k3 z3 => ?_)
      refine h2.run A { s with heap := h3, toks := t3 } _ _ h₀ a T (Fi.kp k3) fun fl h4 t4 o4 => ?_
      obtain ⟨v, rfl, o5⟩ := o4
      exact h _ h4 t4 ⟨v, rfl, o5⟩

/-- two names from a tuple -/
theorem XT.tup2 {x y : Str} {px py tp pos : Pos} {n : Nat} {e : Expr} {d1 d2 : D} (he : EV c k env (OwnO O₀ ρ) ρ e (.tup [d1, d2])) (hx : StoreOk env x) (hy : StoreOk env y)
    (hs : swapsWithSole [.Tuple [.Name x px, .Name y py] n tp] e pos.line env = pure false := by rfl)
    (hw : swappedStores [.Tuple [.Name x px, .Name y py] n tp] e env = pure none := by rfl) :
    XT c k env O₀ ρ (.Assign [.Tuple [.Name x px, .Name y py] n tp] e pos) (.next (setV (setV ρ x (.val d1)) y (.val d2))) := by
  refine .mk ?_
  intro A s Q E h₀ a T F h
  refine Assign_Tuple (wpAny_grows (he.run A s _ E a (F.top T) F.fr fun v h1 t1 k1 r1 hz => ?_)) hs hw
  cases r1 with
  | tup hl rl =>
  rename_i ta vs
  cases rl with | cons r1 r2 =>
  cases r2 with | cons r2 r3 =>
  cases r3
  rename_i v1 v2
  rw [assign_Tuple]
  refine wpAny_bind (wpAny_standAt ?_)
  unfold unpack
  rw [show (assignEach [Expr.Name x px, Expr.Name y py] env).length = [v1, v2].toArray.size from rfl, show (assignEach [Expr.Name x px, Expr.Name y py] env).findIdx? (·.1) = none from rfl]
  refine wpAny_bind (wpAny_holding (wpAny_grows (s := { s with heap := h1, toks := t1 }) (unpackItems_tuple a.handled hl fun h2 x2 z2 => ?_)))
  have k2 : Kp h1 h2 := fun b o e => x2 b o (Nat.ne_of_lt (Heap.lt_size e)) e
  have G := F.kp (k1.trans k2)
  refine assignInOrder_cons (wpAny_assign_Name (G.storeS (e := .val d1) (s := { s with heap := h2, toks := t1 }) Kp.refl (Nat.le_refl _) hx (show Rep _ _ _ _ from r1.kp k2) (setV_val_nodup F.ownNd) fun h3 t3 F3 S3 => ?_))
  have r2' : Rep (OwnO O₀ (setV ρ x (.val d1))) h3 v2 d2 := by
    refine Rep.mono (fun b o e f => ?_) (r2.kp k2)
    obtain ⟨n1, n2, n3⟩ := foot0_apart G e f.1
    exact ⟨S3.keep b o n1 n2 n3 e, fun q z => f.1.2.2 q (z.imp id fun z => (setV_own z).elim (fun z => by cases z) id)⟩
  refine assignInOrder_cons (wpAny_assign_Name (F3.storeS (e := .val d2) (s := { s with heap := h3, toks := t3 }) Kp.refl (Nat.le_refl _) hy (show Rep _ _ _ _ from r2') (setV_val_nodup F3.ownNd) fun h4 t4 F4 S4 => ?_))
  exact assignInOrder_nil (h .next h4 t4 ⟨rfl, F4, (((k1.trans k2).step (Nat.le_trans hz z2)).trans S3).trans S4⟩)
/-- an own list is turned -/
theorem setV_same_own {x : Str} {e f : Ent} (he : e.addr = f.addr) : ∀ {ρ : List (Str × Ent)}, (ρ.map (·.1)).Nodup → (x, e) ∈ ρ → ownAddrs (setV ρ x f) = ownAddrs ρ
  | [], _, h => absurd h List.not_mem_nil
  | (y, g) :: r, hn, h => by
    rw [List.map_cons, List.nodup_cons] at hn
    unfold setV
    split
    · rename_i q
      subst q
      rcases List.mem_cons.mp h with p | p
      · cases p
        unfold ownAddrs
        rw [List.filterMap_cons, List.filterMap_cons]
        simp only [he]
      · exact absurd (List.mem_map.mpr ⟨_, p, rfl⟩) hn.1
    · rename_i q
      rcases List.mem_cons.mp h with p | p
      · cases p; exact absurd rfl q
      · have := setV_same_own he hn.2 p
        unfold ownAddrs at this ⊢
        rw [List.filterMap_cons, List.filterMap_cons, this]
theorem own_apart {x y : Str} {e f : Ent} {a : Addr} : ∀ {ρ : List (Str × Ent)}, (ownAddrs ρ).Nodup → (x, e) ∈ ρ → (y, f) ∈ ρ → e.addr = some a → f.addr = some a → (ρ.map (·.1)).Nodup → x = y
  | [], _, h, _, _, _, _ => absurd h List.not_mem_nil
  | (z, g) :: r, hn, h1, h2, ha, hb, nd => by
    rw [List.map_cons, List.nodup_cons] at nd
    unfold ownAddrs at hn
    rw [List.filterMap_cons] at hn
    have key : ∀ {w : Str} {i : Ent}, (w, i) ∈ r → i.addr = some a → g.addr = some a → False := fun {w i} hw hi hg => by
      simp only [hg] at hn
      exact (List.nodup_cons.mp hn).1 (List.mem_filterMap.mpr ⟨_, hw, hi⟩)
    rcases List.mem_cons.mp h1 with p | p
    · cases p
      rcases List.mem_cons.mp h2 with q | q
      · cases q; rfl
      · exact (key q hb ha).elim
    · rcases List.mem_cons.mp h2 with q | q
      · cases q; exact (key p ha hb).elim
      · have hn' : (ownAddrs r).Nodup := by
          simp only at hn
          split at hn
          · exact hn
          · exact (List.nodup_cons.mp hn).2
        exact own_apart hn' p q ha hb nd.2
theorem FS.touch {x : Str} {e f : Ent} {a : Addr} (F : FS env h₀ O₀ ρ h) (hm : (x, e) ∈ ρ) (he : e.addr = some a) (hf : f.addr = some a) (hs : ∀ b o, b ≠ a → h.get? b = some o → h'.get? b = some o)
    (hv : ∀ v, EntIs (OwnO O₀ ρ) h v e → EntIs (OwnO O₀ ρ) h' v f) : FS env h₀ O₀ (setV ρ x f) h' ∧ (h.objs.size ≤ h'.objs.size → Step env ρ h (setV ρ x f) h') := by
  have ho : ownAddrs (setV ρ x f) = ownAddrs ρ := setV_same_own (he.trans hf.symm) F.nd hm
  have hO : OwnO O₀ (setV ρ x f) = OwnO O₀ ρ := by unfold OwnO; rw [ho]
  have ham : a ∈ ownAddrs ρ := addr_own hm he
  obtain ⟨oa, ea, hcl⟩ := off_own F ham
  obtain ⟨oa', ea', vs', n', hd'⟩ := own_alive F ham
  rw [ea] at ea'; cases ea'
  have nsk : ∀ {L : Addr} {m : Str → Option Value}, h.Ns L m → h'.Ns L m := fun {L m} ⟨o, es, ep, e, hd, r⟩ => ⟨o, es, ep, hs _ _ (by rintro rfl; rw [ea] at e; cases e; rw [hd'] at hd; cases hd) e, hd, r⟩
  have clk : ∀ {b : Addr} {v : Option Value}, h.IsCell b v → h'.IsCell b v := fun {b v} ⟨o, e, hd⟩ => ⟨o, hs _ _ (by rintro rfl; rw [ea] at e; cases e; rw [hd'] at hd; cases hd) e, hd⟩
  obtain ⟨vx, hvx, hex⟩ := F.fr.vars x e hm
  have hva : ∀ v, VarIs env h x v → VarIs env h' x v := fun v hv => hv.imp (fun ⟨a, m, n, q⟩ => ⟨a, m, nsk n, q⟩) (fun ⟨a, b, l, q⟩ => ⟨a, b, l, clk q⟩)
  have new := hv vx hex
  obtain ⟨o2, e2, _⟩ := new.alive a hf
  refine ⟨⟨⟨F.fr.kind, F.fr.glob, F.fr.blt, fun y g hg => ?_, fun b hb => ?_⟩, fun b o e => ?_, let ⟨m, hm⟩ := F.ns; ⟨m, nsk hm⟩, F.above, fun n b e => let ⟨x, v, y⟩ := F.cellAb n b e; ⟨x, v, clk y⟩, F.cellAp, by rw [ho]; exact F.ownAb, by rw [ho]; exact F.ownNd, setV_nodup F.nd, F.o0⟩,
    fun hz => ⟨fun b o n1 n2 n3 e => hs b o (fun q => n3 (q ▸ ham)) e, fun b hb => .inl (ho ▸ hb), hz⟩⟩
  · rw [hO]
    rcases mem_setV F.nd hg with ⟨rfl, rfl⟩ | ⟨hne, hg'⟩
    · exact ⟨vx, hva vx hvx, new⟩
    · obtain ⟨v', hv', he'⟩ := F.fr.vars y g hg'
      refine ⟨v', hv'.imp (fun ⟨a, m, n, q⟩ => ⟨a, m, nsk n, q⟩) (fun ⟨a, b, l, q⟩ => ⟨a, b, l, clk q⟩), ?_⟩
      have other : ∀ {b : Addr} {o : Obj}, h.get? b = some o → b ≠ a → h'.get? b = some o := fun e q => hs _ _ q e
      cases g with
      | val d => exact Rep.mono (fun b o e ft => ⟨other e (by rintro rfl; rw [ea] at e; cases e; exact ft.1.2.2 hcl (.inr ham)), ft.1.2.2⟩) he'
      | own b ds =>
        have hb : b ≠ a := by rintro rfl; exact hne (own_apart F.ownNd hg' hm rfl he F.nd)
        obtain ⟨e1, e2, e3, vs, ⟨o, e4, r⟩, hr⟩ := he'
        exact ⟨e1, e2, e3, vs, ⟨o, other e4 hb, r⟩, hr.any e3⟩
      | app b ds =>
        have hb : b ≠ a := by rintro rfl; exact hne (own_apart F.ownNd hg' hm rfl he F.nd)
        obtain ⟨e1, e2, e3, vs, ⟨o, n, e4, r⟩, hr⟩ := he'
        exact ⟨e1, e2, e3, vs, ⟨o, n, other e4 hb, r⟩, hr.any e3⟩
  · rw [hO] at hb
    by_cases q : b = a
    · exact ⟨o2, q ▸ e2⟩
    · obtain ⟨o, e⟩ := F.fr.ob b hb
      exact ⟨o, hs b o q e⟩
  · exact hs b o (by rintro rfl; exact absurd (Heap.lt_size e) (Nat.not_lt.mpr (F.ownAb _ ham))) (F.keep b o e)
end
end Mine
end
section -- W11
open PySem PySem.W PyProof.Rows PySem.Calls
set_option Elab.async false
set_option linter.all false
namespace Mine
section
variable {c : Cx} {k : Nat} {env : Env} {O₀ O : Addr → Prop} {ρ ρ₁ ρ₂ : List (Str × Ent)} {h₀ h h' h1 h2 h3 : Heap}
/-- x.append(e) -/
theorem XT.append {x : Str} {px apos pos spos : Pos} {e : Expr} {a : Addr} {ds : List D} {d : D} (hm : (x, Ent.app a ds) ∈ ρ) (he : EV c k env (OwnO O₀ ρ) ρ e d) (hf : d.flat = true) (hz : ds.length ≤ 16777216)
    (hbase : attributeBase (.Name x px) "append" env (eval (.Name x px) env) = eval (.Name x px) env := by rfl)
    (hfew : ((backTo pos (starEach [e] env)).all (fun x => !x.1) && (backToKw pos (keywordEach [] env)).all (fun x => x.1.isSome)
      && decide (([e] : List Expr).length + ([] : List Keyword).length + (if ([] : List Keyword).isEmpty then 0 else 1) < 30)) = true := by rfl)
    (hline : (apos.endLine == pos.line) = true := by rfl) (htrees : backTo pos (starEach [e] env) = [(false, eval e env)] := by rfl)
    (hd : (x == ("__debug__" : Str)) = false := by decide +kernel) (hi : interactive env = false := by rfl)
    (hsw : swapsWith (.Call (.Attribute (.Name x px) "append" apos) [e] [] pos) none spos.line env = pure false := by rfl) :
    XT c k env O₀ ρ (.Expr (.Call (.Attribute (.Name x px) "append" apos) [e] [] pos) spos) (.next (setV ρ x (.app a (ds ++ [d])))) := by
  refine .mk ?_
  intro A s Q E h₀ ao T F h
  refine wpAny_Expr (wpAny_Call_append hbase hfew hline htrees (name_ent F.fr hm (fun v ev => ?_) hd)) hi hsw
  obtain ⟨rfl, ho, hfl, vs, hl, hr⟩ := id ev
  refine ⟨a, _, rfl, hl, wpAny_grows (he.run A s _ E ao (F.top T) F.fr fun v h1 t1 k1 r1 z1 => ?_)⟩
  refine wpAny_grows (list_append_plainL (s := { s with heap := h1, toks := t1 }) (hl.keeps k1) (fun h2 hl2 hs2 z2 => ?_) (by rw [sizeLine_eq]; have := hr.length; simp only [List.size_toArray]; omega))
  have G := F.kp k1
  obtain ⟨F2, S2⟩ := G.touch (e := .app a ds) (f := .app a (ds ++ [d])) (h' := h2) hm rfl rfl (fun b o n e => (hs2.2 b n).trans e) fun v' ev' => by
    obtain ⟨rfl, ho', _, _⟩ := ev'
    refine ⟨rfl, ho', fun d' hd' => ?_, vs ++ [v], by simpa using hl2, ?_⟩
    · rcases List.mem_append.mp hd' with q | q
      · exact hfl _ q
      · rw [List.mem_singleton.mp q]; exact hf
    · exact (RepL.append (hr.kp k1) (.cons r1 .nil) (h := h1) |>.any fun d' hd' => by
        rcases List.mem_append.mp hd' with q | q
        · exact hfl _ q
        · rw [List.mem_singleton.mp q]; exact hf)
  exact h .next h2 t1 ⟨rfl, F2, (k1.step z1).trans (S2 z2)⟩

theorem EV.subEnt {x : Str} {px : Pos} {slice : Expr} {p : Pos} {e : Ent} {di d : D} (hm : (x, e) ∈ ρ) (hi : EV c k env O ρ slice di)
    (ht : ∀ (A : Around) (s : Shared) (Q : Value → Shared → Prop) (E : Value → Shared → Prop) (vo vi : Value), AOk k A → EntIs O s.heap vo e → Rep O s.heap vi di →
      (∀ v h' tk, Kp s.heap h' → Rep O h' v d → Q v { s with heap := h', toks := tk }) → wpAny (MM c) A (subscriptTail (.Name x px) slice vo vi) Q E s)
    (hd : (x == ("__debug__" : Str)) = false := by decide +kernel) : EV c k env O ρ (.Subscript (.Name x px) slice p) d := by
  refine .mk ?_
  intro A s Q E a T F h
  refine Subscript_ (name_ent F hm (fun vl r1 => hi.run A s _ E a T F fun vr h2 t2 k2 r2 => ?_) hd)
  exact ht A { s with heap := h2, toks := t2 } Q E vl vr a (r1.kp k2) r2 fun v h' tk k3 r3 => h v h' tk (k2.trans k3) r3
theorem own_read {a : Addr} {ds : List D} {v : Value} {e : Ent} (he : e = .own a ds ∨ e = .app a ds) (x : EntIs O h v e) : v = .ref a ∧ ∃ vs, h.IsList a vs.toArray ∧ RepL O h vs ds := by
  rcases he with rfl | rfl
  · obtain ⟨e1, _, _, vs, hl, hr⟩ := x; exact ⟨e1, vs, hl, hr⟩
  · obtain ⟨e1, _, _, vs, hl, hr⟩ := x; exact ⟨e1, vs, PlainL.isList' hl, hr⟩
theorem EV.itemOwn {x : Str} {px : Pos} {slice : Expr} {p : Pos} {a : Addr} {ds : List D} {i : Int} {d : D} {e : Ent} (hm : (x, e) ∈ ρ) (hi : EV c k env O ρ slice (.int i))
    (h0 : 0 ≤ i) (hx : ds[i.toNat]? = some d) (hz : ds.length ≤ 16777216) (he : e = .own a ds ∨ e = .app a ds)
    (hd : (x == ("__debug__" : Str)) = false := by decide +kernel) : EV c k env O ρ (.Subscript (.Name x px) slice p) d :=
  EV.subEnt hm hi (fun A s Q E vo vi ao x y h => by
    cases y
    obtain ⟨rfl, vs, hl, rl⟩ := own_read he x
    obtain ⟨v, e, rv⟩ := rl.get hx
    have hlt : i.toNat < ds.length := by have := List.getElem?_eq_some_iff.mp hx; exact this.1
    exact tail_is hl.typeIs slot_list_getitem.lookup (wpAny_getItem_list hl h0 (by omega) (by simpa using e) (h v s.heap s.toks Kp.refl rv))) hd
theorem EV.itemOwnNeg {x : Str} {px : Pos} {slice : Expr} {p : Pos} {a : Addr} {ds : List D} {i : Int} {d : D} {e : Ent} (hm : (x, e) ∈ ρ) (hi : EV c k env O ρ slice (.int i))
    (h0 : i < 0) (h1 : -(ds.length : Int) ≤ i) (hx : ds[(i + ds.length).toNat]? = some d) (hz : ds.length ≤ 16777216) (he : e = .own a ds ∨ e = .app a ds)
    (hd : (x == ("__debug__" : Str)) = false := by decide +kernel) : EV c k env O ρ (.Subscript (.Name x px) slice p) d :=
  EV.subEnt hm hi (fun A s Q E vo vi ao x y h => by
    cases y
    obtain ⟨rfl, vs, hl, rl⟩ := own_read he x
    obtain ⟨v, e, rv⟩ := rl.get hx
    have hn := rl.length
    exact tail_is hl.typeIs slot_list_getitem.lookup (wpAny_getItem_list_neg hl h0 (by simp only [List.size_toArray, hn]; exact h1) (by omega) (by simpa [hn] using e) (h v s.heap s.toks Kp.refl rv))) hd

/-- setitem(x, i, v) -/
theorem XT.setitem {f x na nb nc : Str} {pf px pos spos pa pb pc ps pp : Pos} {ei ev : Expr} {a b : Addr} {ds : List D} {i : Int} {d : D} {scope : Scope}
    (X : Fn c b "setitem" [na, nb, nc] [.Assign [.Subscript (.Name na pa) (.Name nb pb) ps] (.Name nc pc) pp] scope)
    (la : scope.names.lookup na = some .local) (lb : scope.names.lookup nb = some .local) (lc : scope.names.lookup nc = some .local)
    (hm : (x, Ent.own a ds) ∈ ρ) (hi : EV c (k + 1) env (OwnO O₀ ρ) ρ ei (.int i)) (hv : EV c (k + 1) env (OwnO O₀ ρ) ρ ev d) (hf : d.flat = true) (h0 : 0 ≤ i) (hlt : i < ds.length) (hz : ds.length ≤ 16777216)
    (hg : c.mg f = some (.ref b)) (hx : env.kindOf f = some .globalImplicit)
    (hd : (f == ("__debug__" : Str)) = false := by decide +kernel) (hdx : (x == ("__debug__" : Str)) = false := by decide +kernel)
    (hda : (na == ("__debug__" : Str)) = false := by decide +kernel) (hdb : (nb == ("__debug__" : Str)) = false := by decide +kernel) (hdc : (nc == ("__debug__" : Str)) = false := by decide +kernel)
    (hab : na ≠ nb := by decide +kernel) (hac : na ≠ nc := by decide +kernel) (hbc : nb ≠ nc := by decide +kernel)
    (hs : starEach [.Name x px, ei, ev] env = [(false, eval (.Name x px) env), (false, eval ei env), (false, eval ev env)] := by rfl)
    (hs1 : starEach [ei, ev] env = [(false, eval ei env), (false, eval ev env)] := by rfl) (hs2 : starEach [ev] env = [(false, eval ev env)] := by rfl)
    (he : eval (.Call (.Name f pf) [.Name x px, ei, ev] [] pos) env = (do callWith pos (← eval (.Name f pf) env) [] (backTo pos (starEach [.Name x px, ei, ev] env)) (backToKw pos (keywordEach [] env))) := by rfl)
    (hin : interactive env = false := by rfl) (hsw : swapsWith (.Call (.Name f pf) [.Name x px, ei, ev] [] pos) none spos.line env = pure false := by rfl) :
    XT c (k + 1) env O₀ ρ (.Expr (.Call (.Name f pf) [.Name x px, ei, ev] [] pos) spos) (.next (setV ρ x (.own a (ds.set i.toNat d)))) := by
  refine .mk ?_
  intro A s Q E h₀ ao T F h
  obtain ⟨o, params, pm, cd, doc, hK, hdt, hcd, hbind⟩ := X.def_
  refine wpAny_Expr (Call_ (EV.globalName (F.top T) F.fr hx hg ?_ hd) he) hin hsw
  have args : wpAny (MM c) A (spliced (backTo pos (starEach [.Name x px, ei, ev] env))) (fun vs s' => ∃ v1 t1 v2 h2 tk2, vs = [.ref a, .int i t1, v2] ∧ s' = { s with heap := h2, toks := tk2 } ∧ Kp s.heap h2 ∧ s.heap.objs.size ≤ h2.objs.size ∧ Rep (OwnO O₀ ρ) h2 v2 d ∧ v1 = ()) E s := by
    refine wpAny_items_cons (name_ent F.fr hm (fun v ev => ?_) hdx) (by rw [hs, hs1])
    obtain ⟨rfl, _, _, _⟩ := id ev
    refine wpAny_grows (wpAny_items_cons (hi.run A s _ E ao (F.top T) F.fr fun v1 h1 t1 k1 r1 => ?_) (by rw [hs1, hs2]))
    refine wpAny_items_cons (hv.run A _ _ E ao ((F.kp k1).top T) (F.kp k1).fr fun v2 h2 t2 k2 r2 => ?_) (by rw [hs2]; rfl)
    refine wpAny_items_nil fun z => ?_
    cases r1
    exact ⟨(), _, v2, h2, t2, rfl, rfl, k1.trans k2, z, r2, rfl⟩
  refine callWith_function (o := o) (fd := docDef "setitem" params [.Assign [.Subscript (.Name na pa) (.Name nb pb) ps] (.Name nc pc) pp] scope pm cd doc) ?_
  rw [hs] at args ⊢
  refine evalArgs_plain (wpAny_mono args (fun vs s' q => ?_) fun _ _ e => e)
  obtain ⟨_, ti, v2, h2, tk2, rfl, rfl, k2, z2, r2, _⟩ := q
  have G := F.kp k2
  refine ⟨⟨(G.top T).k _ _ hK, hdt⟩, ?_⟩
  refine wpAny_grows (wpAny_call (call_cells_ret (s := { s with heap := h2, toks := tk2 }) (by have := ao.depth; omega) ((G.top T).k _ _ hK) hdt (G.top T).lim (hcd _ (G.top T)) (hbind _ rfl) (fun x hx => ?_) (fun h₁ tk FF C => ?_) X.co X.gen X.kind))
  · have : x.1 ∈ [na, nb, nc] := (List.of_mem_zip (a := x.1) (b := x.2) hx).1
    rcases X.params _ this with q | q
    · exact .inl q
    · obtain ⟨b, hb⟩ := cells_of (n := h2.objs.size + 1) q
      exact .inr ⟨q, by show (List.lookup x.1 (cellsFrom (h2.objs.size + 1) scope.names [])).isSome = true; rw [hb]; rfl⟩
  · have nd : (([na, nb, nc].zip [Value.ref a, .int i ti, v2]).map (·.1)).Nodup := by
      simp [hab, hac, hbc]
    have va : bindL (envOfC "setitem" scope h2.objs.size b cd).kindOf ([na, nb, nc].zip [.ref a, .int i ti, v2]) (fun _ => none) na = some (.ref a) := bindL_mem nd (by simp) la
    have vb : bindL (envOfC "setitem" scope h2.objs.size b cd).kindOf ([na, nb, nc].zip [.ref a, .int i ti, v2]) (fun _ => none) nb = some (.int i ti) := bindL_mem nd (by simp) lb
    have vc : bindL (envOfC "setitem" scope h2.objs.size b cd).kindOf ([na, nb, nc].zip [.ref a, .int i ti, v2]) (fun _ => none) nc = some v2 := bindL_mem nd (by simp) lc
    obtain ⟨vx, hvx, hex⟩ := G.fr.vars _ _ hm
    obtain ⟨rfl, hO, hfl, vs, hl, hr⟩ := id hex
    have hn := hr.length
    refine wpAny_execs_cons (wpAny_Assign_Subscript (wpAny_Name (wpAny_loadName_local X.kind lc FF.ns vc ?_) hdc) rfl)
    refine wpAny_Name (wpAny_loadName_local X.kind la FF.ns va ?_) hda
    refine wpAny_Name (wpAny_loadName_local X.kind lb FF.ns vb ?_) hdb
    refine wpAny_setItem_list (items := vs.toArray) (let ⟨ob, e, r⟩ := hl; ⟨ob, FF.keep _ _ e, r⟩) h0 (by omega) (by simp only [List.size_toArray]; omega) fun h3 hl3 hs3 => ?_
    refine wpAny_execs_nil fun z3 => ?_
    obtain ⟨F3, S3⟩ := G.touch (e := .own a ds) (f := .own a (ds.set i.toNat d)) (h' := h3) hm rfl rfl (fun b o n e => (hs3.2 b n).trans (FF.keep b o e)) fun v' ev' => by
      obtain ⟨rfl, ho', _, _⟩ := ev'
      have hfl' : ∀ d' ∈ ds.set i.toNat d, d'.flat = true := fun d' hd' => by
        rcases List.mem_or_eq_of_mem_set hd' with q | q
        · exact hfl _ q
        · rw [q]; exact hf
      refine ⟨rfl, ho', hfl', vs.set i.toNat v2, by simpa using hl3, ?_⟩
      have : ∀ (vs : List Value) (ds : List D) (n : Nat), RepL (OwnO O₀ ρ) h2 vs ds → RepL (OwnO O₀ ρ) h2 (vs.set n v2) (ds.set n d) := by
        intro vs
        induction vs with
        | nil => intro ds n r; cases r; exact .nil
        | cons v vs ih =>
          intro ds n r
          cases r with | cons r1 r2' =>
          cases n with
          | zero => exact .cons r2 r2'
          | succ n => exact .cons r1 (ih _ n r2')
      exact (this vs ds _ hr).any hfl'
    exact h .next h3 tk ⟨rfl, F3, (k2.step z2).trans (S3 z3)⟩
end
end Mine
end
section -- W12
open PySem PySem.W PyProof.Rows PySem.Calls
set_option Elab.async false
set_option linter.all false
namespace Mine
section
variable {c : Cx} {k : Nat} {env : Env} {O₀ O : Addr → Prop} {ρ ρ₁ ρ₂ : List (Str × Ent)} {h₀ h h' h1 h2 h3 : Heap}
theorem setV_val_own {x : Str} {d : D} {a : Addr} (h : a ∈ ownAddrs (setV ρ x (.val d))) : a ∈ ownAddrs ρ := (setV_own h).elim (fun q => nomatch q) id
/-- the state behind a wide store of a value -/
theorem FS.after' {x : Str} {d : D} {v : Value} (F : FS env h₀ O₀ ρ h)
    (hkL : ∀ b o, h.get? b = some o → Listy o → b ≠ env.locals → h'.get? b = some o) (hk0 : ∀ b o, h.get? b = some o → b < h₀.objs.size → h'.get? b = some o)
    (hns : ∃ m, h'.Ns env.locals m) (hcl : ∀ n a v, env.cells.lookup n = some a → h.IsCell a v → h'.IsCell a v)
    (hx : VarIs env h' x v) (hy : ∀ y v', y ≠ x → VarIs env h y v' → VarIs env h' y v') (he : Rep (OwnO O₀ (setV ρ x (.val d))) h' v d) : FS env h₀ O₀ (setV ρ x (.val d)) h' := by
  obtain ⟨mL, hL⟩ := F.ns
  have lne : ∀ {b : Addr} {o : Obj}, h.get? b = some o → Listy o → (∀ es ep, o.data ≠ .dict es ep) → b ≠ env.locals := fun {b o} e _ f => by
    rintro rfl
    obtain ⟨o', es, ep, e', hd, _⟩ := hL
    rw [e] at e'; cases e'
    exact f _ _ hd
  refine ⟨⟨F.fr.kind, F.fr.glob, F.fr.blt, fun y f hm => ?_, fun a ha => ?_⟩, fun b o e2 => hk0 b o (F.keep b o e2) (Heap.lt_size e2), hns, F.above, fun n a e2 => ⟨(F.cellAb n a e2).1, let ⟨_, v, hc⟩ := F.cellAb n a e2; ⟨v, hcl n a v e2 hc⟩⟩, F.cellAp, fun a ha => F.ownAb a (setV_val_own ha), setV_val_nodup F.ownNd, setV_nodup F.nd, F.o0⟩
  · rcases mem_setV F.nd hm with ⟨rfl, rfl⟩ | ⟨hne, hm'⟩
    · exact ⟨v, hx, he⟩
    · obtain ⟨v1, hv1, he1⟩ := F.fr.vars y f hm'
      refine ⟨v1, hy y v1 hne hv1, ?_⟩
      cases f with
      | val d' => exact Rep.mono (fun b o e ft => ⟨hkL b o e ft.2 (lne e ft.2 ft.1.1), fun q z => ft.1.2.2 q (z.imp id setV_val_own)⟩) he1
      | own b ds =>
        obtain ⟨e1, e2, e3, vs, ⟨o, e4, hc, n, hd⟩, hr⟩ := he1
        exact ⟨e1, .inr (addr_own (setV_keep hne hm') rfl), e3, vs, ⟨o, hkL _ _ e4 (.inl hc) (lne e4 (.inl hc) (by simp [hd])), hc, n, hd⟩, hr.any e3⟩
      | app b ds =>
        obtain ⟨e1, e2, e3, vs, ⟨o, n, e4, hc, r, hd⟩, hr⟩ := he1
        exact ⟨e1, .inr (addr_own (setV_keep hne hm') rfl), e3, vs, ⟨o, n, hkL _ _ e4 (.inl hc) (lne e4 (.inl hc) (by simp [hd])), hc, r, hd⟩, hr.any e3⟩
  · rcases ha with z | z
    · obtain ⟨o, e⟩ := F.fr.ob a (.inl z)
      exact ⟨o, hk0 a o e (F.o0 a z)⟩
    · have z' := setV_val_own z
      obtain ⟨o, e, hc⟩ := off_own F z'
      obtain ⟨o', e', vs, n, hd⟩ := own_alive F z'
      rw [e] at e'; cases e'
      exact ⟨o, hkL a o e (.inl hc) (lne e (.inl hc) (by simp [hd]))⟩

open Classical in
noncomputable def pdec (pd : D → Bool) : Value → Bool := fun v => decide (∃ d, Sc v d ∧ pd d = true)
open Classical in
theorem pdec_is (pd : D → Bool) : ∀ v d, Sc v d → pdec pd v = pd d := fun v d hd => by
  unfold pdec
  by_cases q : pd d = true
  · rw [q]; exact decide_eq_true ⟨d, hd, q⟩
  · have q' : pd d = false := by simpa using q
    rw [q']; exact decide_eq_false fun ⟨d', h1, h2⟩ => q (by rw [hd.inj h1]; exact h2)
/-- the quiet turns of a comprehension -/
theorem comp_quiet {elt : Expr} {x : Str} {ifs : List Expr} {scope : Scope} {ρ' : List (Str × Ent)} {ds : List D} {s : Shared} {h2 : Heap} {t2 : Nat} {A : Around} {wr : List Addr} {P : Nat → Value → Prop} (pd : D → Bool) (fd : D → D)
    (X : CompOk env scope x ρ ρ') (ao : AOk k A) (T : Top c s.heap) (F : FR env O ρ s.heap) (up : ∀ {h3 : Heap}, (∀ b o, b ∉ wr → h2.get? b = some o → h3.get? b = some o) → Kp s.heap h3)
    (hP : ∀ (i : Nat) (v : Value), P i v → ∃ d, ds[i]? = some d ∧ Sc v d)
    (ht : ∀ C d, d ∈ ds → EBs c k (compEnvC scope (clOf env scope.names []) C env) O ((x, .val d) :: ρ') ifs (pd d))
    (he : ∀ C d, d ∈ ds → pd d = true → EV c k (compEnvC scope (clOf env scope.names []) C env) O ((x, .val d) :: ρ') elt (fd d))
    (hfl : ∀ d ∈ ds, pd d = true → (fd d).flat = true) :
    QuietOnC PySem.Challenge.pw_wj0045_01 c.w A env scope (clOf env scope.names []) x ifs elt wr (fun i v => i < ds.length ∧ P i v) (pdec pd) (fun v y => ∀ d, Sc v d → Sc y (fd d)) { s with heap := h2, toks := t2 } := by
  have hpv := pdec_is pd
  refine ⟨?_, ?_⟩
  · intro C i v s₃ m₃ E' hC hv hn hm hk htk
    obtain ⟨hlt, hv⟩ := hv
    obtain ⟨d, hd, hsc⟩ := hP i v hv
    have hmem : d ∈ ds := List.mem_of_getElem? hd
    have k3 := up hk
    have F3 := X.fr (C := C) F k3 hn hm hsc
    have z := ht C d hmem
    cases ifs with
    | nil =>
      have z : pd d = true := z
      rw [List.forIn_nil]
      exact wpAny_pure ⟨by rw [hpv v d hsc, z], ⟨_, _, rfl, fun _ _ e => e⟩⟩
    | cons t r =>
      cases r with
      | cons => exact z.elim
      | nil =>
        have z : EB c k _ O _ t (pd d) := z
        rw [List.forIn_cons]
        simp only [if_true]
        refine wpAny_bind (wpAny_bind (z.run A s₃ _ _ ao (T.kp k3) F3 fun h4 t4 k4 => wpAny_pure ?_))
        show wpAny _ _ (forIn [] _ _) _ _ _
        rw [List.forIn_nil]
        exact wpAny_pure ⟨by rw [hpv v d hsc], ⟨_, _, rfl, k4⟩⟩
  · intro C i v s₃ m₃ E' hC hv hpv' hn hm hk htk
    obtain ⟨hlt, hv⟩ := hv
    obtain ⟨d, hd, hsc⟩ := hP i v hv
    have hmem : d ∈ ds := List.mem_of_getElem? hd
    have hpd : pd d = true := by rw [← hpv v d hsc]; exact hpv'
    have k3 := up hk
    refine (he C d hmem hpd).run A s₃ _ _ ao (T.kp k3) (X.fr F k3 hn hm hsc) fun y h4 t4 k4 r4 => ⟨fun d' hd' => ?_, ⟨_, _, rfl, k4⟩⟩
    rw [← hsc.inj hd']
    exact r4.sc (hfl d hmem hpd)
/-- x = [ ... ] on one line -/
theorem XT.assignComp {elt iter : Expr} {x y : Str} {px py : Pos} {ifs : List Expr} {scope : Scope} {pos spos : Pos} {ρ' : List (Str × Ent)} {dv : D} {ds : List D} (pd : D → Bool) (fd : D → D)
    (hsw : swapsWith (.ListComp elt [⟨.Name x px, iter, ifs, 0⟩] scope pos) (some (.Name y py)) spos.line env = pure true)
    (X : CompOk env scope x ρ ρ') (hyl : env.kindOf y = some .local) (hi : EV c k env (OwnO O₀ ρ) ρ iter dv) (hw : ITER c k (OwnO O₀ ρ) dv ds) (hz : ds.length ≤ 16777216)
    (ht : ∀ C d, d ∈ ds → EBs c k (compEnvC scope (clOf env scope.names []) C env) (OwnO O₀ ρ) ((x, .val d) :: ρ') ifs (pd d))
    (he : ∀ C d, d ∈ ds → pd d = true → EV c k (compEnvC scope (clOf env scope.names []) C env) (OwnO O₀ ρ) ((x, .val d) :: ρ') elt (fd d))
    (hfl : ∀ d ∈ ds, pd d = true → (fd d).flat = true)
    (hs : ∀ x, foldedSetIterable iter env x = pure x := by intro _; rfl) :
    XT c k env O₀ ρ (.Assign [.Name y py] (.ListComp elt [⟨.Name x px, iter, ifs, 0⟩] scope pos) spos) (.next (setV ρ y (.val (.list ((ds.filter pd).map fd))))) := by
  refine .mk ?_
  intro A s Q E h₀ ao T F h
  refine wpAny_grows (wpAny_Assign_ListComp_free (pdec pd) (fun v y => ∀ d, Sc v d → Sc y (fd d)) hsw (X.cl F.fr) X.cell X.kind X.names X.x hyl (by rw [F.fr.kind]; rfl) ?_ hs)
  refine wpAny_grows (hi.run A s _ E ao (F.top T) F.fr fun xv h1 t1 k1 r1 z1 => ?_)
  refine hw.run A _ _ E xv ao ((F.kp k1).top T) (F.kp k1).fr.ob r1 fun I fp wr P St h2 t2 k2 W st0 hfp hwr hoff hP => ?_
  have W := W.bound
  have F2 := F.kp (k1.trans k2)
  obtain ⟨mL, hL⟩ := F2.ns
  have old : ∀ b o, s.heap.get? b = some o → b ∉ wr := fun b o e hm => by
    have h3 : b < s.heap.objs.size := Heap.lt_size e
    have h4 := hwr b hm
    have h5 : b < h1.objs.size := Heap.lt_size (k1 b o e)
    exact absurd h5 (Nat.not_lt.mpr h4)
  have up : ∀ {h3 : Heap}, (∀ b o, b ∉ wr → h2.get? b = some o → h3.get? b = some o) → Kp s.heap h3 := fun hk b o e => hk b o (old b o e) (k2 b o (k1 b o e))
  have Lw : env.locals ∉ wr := by
    obtain ⟨m, hm⟩ := F.ns
    obtain ⟨o, _, _, e, _⟩ := hm
    exact old _ o e
  refine ⟨I, fp, wr, _, _, St, mL, rfl, W, by rw [sizeLine_eq]; exact hz, st0, fun b hb => let ⟨o, e, _⟩ := hfp b hb; Heap.lt_size e, Lw, hL, comp_quiet (s := s) pd fd X ao (F.top T) F.fr up hP ht he hfl, ?_⟩
  intro D h' tk ys vs hD hlD hpl hlen hPs hF hns hk zz
  have zz : s.heap.objs.size ≤ h'.objs.size := zz
  have nO : ¬ OwnO O₀ ρ D := fun q => by
    obtain ⟨o, e⟩ := F2.fr.ob _ q
    have hD : h2.get? D = none := hD
    rw [hD] at e; cases e
  have rep : Rep (OwnO O₀ ρ) h' (.ref D) (.list ((ds.filter pd).map fd)) := .list (vs := ys.toList) (by simpa using hlD) nO (paired_rep (pdec_is pd) hlen (fun i v hv => hP i v (hPs i v hv).2) hF _ h')
  have hkk : ∀ b o, h2.get? b = some o → b ≠ env.locals → b ∉ wr → h'.get? b = some o := fun b o e n1 n2 => hk b o n1 n2 e
  have clne : ∀ n a v, env.cells.lookup n = some a → h2.IsCell a v → h'.IsCell a v := fun n a v e hc => by
    obtain ⟨o, e1, hd⟩ := id hc
    refine ⟨o, hkk a o e1 (Ne.symm (ns_ne_cell hL hc)) fun q => ?_, hd⟩
    obtain ⟨v', o', e', hd'⟩ := (F.cellAb n a e).2
    exact old _ _ e' q
  refine h .next h' tk ⟨rfl, F2.after' (v := .ref D) (fun b o e l n => hkk b o e n fun q => ?_) (fun b o e l => hkk b o e (fun q => ?_) fun q => ?_) ⟨_, hns⟩ clne (.inl ⟨hyl, _, hns, by simp⟩) (fun y' v' hne hv => ?_) (rep.sub fun a q => q.imp id setV_val_own), ⟨fun b o n1 n2 n3 e => hkk b o (k2 b o (k1 b o e)) n1 (old b o e), fun a ha => .inl (setV_val_own ha), zz⟩⟩
  · obtain ⟨o', e', f1, _⟩ := hoff 0 h2 st0 b q
    rw [e] at e'; cases e'
    exact f1 l
  · have := F.above
    rw [q] at l
    exact absurd l (Nat.not_lt.mpr this)
  · have h4 := hwr b q
    obtain ⟨m, hm⟩ := F.ns
    have h5 : h₀.objs.size ≤ s.heap.objs.size := Nat.le_trans F.above (Nat.le_of_lt hm.lt)
    have h4 : h1.objs.size ≤ b := h4
    have z1 : s.heap.objs.size ≤ h1.objs.size := z1
    exact absurd l (Nat.not_lt.mpr (Nat.le_trans h5 (Nat.le_trans z1 h4)))
  · rcases hv with ⟨hl', m', hn', e2⟩ | ⟨hl', b, hb, hc⟩
    · refine .inl ⟨hl', _, hns, ?_⟩
      simp only [hne, if_false]
      rw [Ns.inj hL hn']; exact e2
    · exact .inr ⟨hl', b, hb, clne _ _ _ hb hc⟩
end
end Mine
end
section -- W13
open PySem PySem.W PyProof.Rows PySem.Calls
set_option Elab.async false
set_option linter.all false
namespace Mine
section
variable {c : Cx} {k : Nat} {env : Env} {O₀ O : Addr → Prop} {ρ ρ₁ ρ₂ : List (Str × Ent)} {h₀ h h' h1 h2 h3 : Heap}
/-- a part of a slice -/
noncomputable def EVo (c : Cx) (k : Nat) (env : Env) (O : Addr → Prop) (ρ : List (Str × Ent)) : Option Expr → Option Int → Prop
  | none, none => True
  | some e, some i => EV c k env O ρ e (.int i)
  | _, _ => False
theorem EVo.run {e : Option Expr} {i : Option Int} (he : EVo c k env O ρ e i) {A : Around} {s : Shared} {Q : Value → Shared → Prop} {E : Value → Shared → Prop} (a : AOk k A) (T : Top c s.heap) (F : FR env O ρ s.heap)
    (h : ∀ v h' tk, Kp s.heap h' → IsPart v i → Q v { s with heap := h', toks := tk }) : wpAny (MM c) A (evalPart e env) Q E s := by
  cases e with
  | none =>
    cases i with
    | none => rw [evalPart_none]; exact wpAny_pure (h _ s.heap s.toks Kp.refl .none)
    | some i => exact he.elim
  | some e =>
    cases i with
    | none => exact he.elim
    | some i =>
      rw [evalPart_some]
      exact (show EV c k env O ρ e (.int i) from he).run A s _ E a T F fun v h1 t1 k1 r1 => by cases r1; exact h _ h1 t1 k1 (.int ..)
noncomputable def pickD (ds : List D) (lo hi st : Option Int) : List D :=
  (sliceRange (sliceBounds lo hi st ds.length).1 (sliceBounds lo hi st ds.length).2.1 (sliceBounds lo hi st ds.length).2.2).filterMap (ds[·]?)
theorem RepL.getNone {vs : List Value} {ds : List D} (r : RepL O h vs ds) {i : Nat} (e : ds[i]? = none) : vs[i]? = none := by
  rw [List.getElem?_eq_none_iff] at e ⊢
  rw [r.length]; exact e
theorem RepL.pick {vs : List Value} {ds : List D} (r : RepL O h vs ds) : ∀ (l : List Nat), RepL O h (l.filterMap (vs.toArray[·]?)) (l.filterMap (ds[·]?))
  | [] => .nil
  | i :: l => by
    rw [List.filterMap_cons, List.filterMap_cons]
    cases e : ds[i]? with
    | none => simp only [List.getElem?_toArray, r.getNone e]; simpa using r.pick l
    | some d =>
      obtain ⟨v, e2, rv⟩ := r.get e
      simp only [List.getElem?_toArray, e2]
      exact .cons rv (by simpa using r.pick l)
theorem RepL.slice {vs : List Value} {ds : List D} (r : RepL O h vs ds) (lo hi st : Option Int) : RepL O h (slicePick vs.toArray lo hi st).toList (pickD ds lo hi st) := by
  unfold slicePick pickD
  have := r.length
  simp only [List.size_toArray, this]
  exact r.pick _
theorem EV.slice {value : Expr} {lower upper : Option Expr} {p pos : Pos} {lo hi : Option Int} {ds : List D} (hv : EV c k env O ρ value (.list ds)) (hl : EVo c k env O ρ lower lo) (hu : EVo c k env O ρ upper hi) (hz : ds.length ≤ 16777216)
    (ht : ∀ o r, letTemporaryGo value o r = pure () := by intro _ _; rfl) : EV c k env O ρ (.Subscript value (.Slice lower upper none p) pos) (.list (pickD ds lo hi none)) := by
  refine .mk ?_
  intro A s Q E a T F h
  refine wpAny_Subscript_list_slice (hv.run A s _ E a T F fun v h1 t1 k1 r1 => EVo.run hl a (T.kp k1) (F.kp k1) fun vl h2 t2 k2 p2 => EVo.run hu a ((T.kp k1).kp k2) ((F.kp k1).kp k2) fun vu h3 t3 k3 p3 => ?_) ht
  have r1 := (r1.kp k2).kp k3
  cases r1 with
  | list hl ho rl =>
  refine ⟨_, _, lo, hi, rfl, hl, by rw [sizeLine_eq]; simpa [rl.length] using hz, p2, p3, ?_⟩
  have kk : Kp s.heap h3 := (k1.trans k2).trans k3
  have F3 := F.kp kk
  have x := h (.ref (h3.objs.size + 1)) ((h3.push { cls := .type "slice", data := .fields #[vl, vu, .none] }).push { cls := .type "list", data := .seq (slicePick _ lo hi none) }) t3 ((kk.trans Kp.push).trans Kp.push)
    (by
      have := rep_newList (h := h3.push { cls := .type "slice", data := .fields #[vl, vu, .none] }) (F3.kp Kp.push).ob ((rl.slice lo hi none).kp Kp.push)
      rw [Heap.size_push] at this
      simpa using this)
  exact x
theorem EV.sliceStep {value st : Expr} {lower upper : Option Expr} {p pos : Pos} {lo hi : Option Int} {i : Int} {ds : List D} (hv : EV c k env O ρ value (.list ds)) (hl : EVo c k env O ρ lower lo) (hu : EVo c k env O ρ upper hi) (hst : EV c k env O ρ st (.int i)) (h0 : i ≠ 0)
    (hz : ds.length ≤ 16777216)
    (ht : ∀ o r, letTemporaryGo value o r = pure () := by intro _ _; rfl) : EV c k env O ρ (.Subscript value (.Slice lower upper (some st) p) pos) (.list (pickD ds lo hi (some i))) := by
  refine .mk ?_
  intro A s Q E a T F h
  refine wpAny_Subscript_Slice_step (T := "list") list_getitem_lookup (hv.run A s _ E a T F fun v h1 t1 k1 r1 => wpAny_Slice (EVo.run hl a (T.kp k1) (F.kp k1) fun vl h2 t2 k2 p2 => EVo.run hu a ((T.kp k1).kp k2) ((F.kp k1).kp k2) fun vu h3 t3 k3 p3 => ?_)) ht
  rw [evalPart_some]
  refine hst.run A _ _ E a (((T.kp k1).kp k2).kp k3) (((F.kp k1).kp k2).kp k3) fun vs h4 t4 k4 r4 => ?_
  have r1 := ((r1.kp k2).kp k3).kp k4
  cases r4 with | int _ tt =>
  cases r1 with
  | list hl ho rl =>
  have kk : Kp s.heap h4 := ((k1.trans k2).trans k3).trans k4
  have F4 := F.kp kk
  refine ⟨(hl.push _).typeIs, wpAny_getItem_list_slice (hl.push _) (Heap.IsSliceOf.new ..) p2 p3 (.int ..) (by simpa using h0) ?_ (by rw [sizeLine_eq]; simpa [rl.length] using hz)⟩
  refine h _ _ t4 ((kk.trans Kp.push).trans Kp.push) ?_
  have := rep_newList (h := h4.push { cls := .type "slice", data := .fields #[vl, vu, .int i tt] }) (F4.kp Kp.push).ob ((rl.slice lo hi (some i)).kp Kp.push)
  simpa using this
theorem pickD_run (ds : List D) (a : Nat) : ∀ n, ((List.range n).map (a + ·)).filterMap (ds[·]?) = (ds.drop a).take n
  | 0 => by simp
  | n + 1 => by
    rw [List.range_succ, List.map_append, List.filterMap_append, pickD_run ds a n, List.take_succ]
    congr 1
    simp only [List.map_cons, List.map_nil, List.getElem?_drop]
    cases e : ds[a + n]? <;> simp [e]
theorem pickD_plain (ds : List D) (lo hi : Option Int) :
    pickD ds lo hi none = (ds.drop (lo.elim 0 (clipAt ds.length))).take (hi.elim ds.length (clipAt ds.length) - lo.elim 0 (clipAt ds.length)) := by
  unfold pickD
  rw [sliceBounds_plain]
  simp only [sliceRange_one, pickD_run]
theorem pickD_upto (ds : List D) (b : Nat) : pickD ds none (some (b : Int)) none = ds.take b := by
  rw [pickD_plain]
  simp only [Option.elim, clipAt_nat, List.drop_zero, Nat.sub_zero]
  rcases Nat.le_total b ds.length with h | h
  · rw [Nat.min_eq_left h]
  · rw [Nat.min_eq_right h, List.take_of_length_le (Nat.le_refl _), List.take_of_length_le h]
theorem pickD_from (ds : List D) (b : Nat) : pickD ds (some (b : Int)) none none = ds.drop b := by
  rw [pickD_plain]
  simp only [Option.elim, clipAt_nat]
  rcases Nat.le_total b ds.length with h | h
  · rw [Nat.min_eq_left h, List.take_of_length_le (by simp)]
  · rw [Nat.min_eq_right h, List.drop_of_length_le (Nat.le_refl _), List.drop_of_length_le h]; simp
theorem pickD_mid (ds : List D) (a b : Nat) : pickD ds (some (a : Int)) (some (b : Int)) none = (ds.drop a).take (b - a) := by
  rw [pickD_plain]
  simp only [Option.elim, clipAt_nat]
  rcases Nat.le_total a ds.length with h | h
  · rw [Nat.min_eq_left h]
    rcases Nat.le_total b ds.length with h2 | h2
    · rw [Nat.min_eq_left h2]
    · rw [Nat.min_eq_right h2, List.take_of_length_le (by simp), List.take_of_length_le (by simp; omega)]
  · rw [Nat.min_eq_right h, List.drop_of_length_le (Nat.le_refl _), List.drop_of_length_le h]; simp
theorem AOk.in1 {A : Around} (a : AOk (k + 1) A) : AOk k A.in1 := ⟨a.handled, by have := a.depth; show A.depth + k < _; omega, by have := a.units; show A.units + 1 + 20 * k + 20 < _; omega⟩
theorem preSum_list (ns : List Int) : preSum (fun i => ns.getD i 0) ns.length = ns.sum := by
  have : ∀ n, n ≤ ns.length → preSum (fun i => ns.getD i 0) n = (ns.take n).sum := by
    intro n
    induction n with
    | zero => intro _; rfl
    | succ n ih =>
      intro hn
      have e : ns[n]? = some (ns.getD n 0) := by rw [List.getD_eq_getElem?_getD]; simp [Nat.lt_of_succ_le hn]
      show preSum _ n + ns.getD n 0 = _
      rw [ih (Nat.le_of_succ_le hn), List.take_succ, e]
      simp
  rw [this _ (Nat.le_refl _), List.take_length]
theorem CALL.sum {ns : List Int} : CALL c (k + 1) (.builtin "sum") [.list (ns.map .int)] (.int ns.sum) := by
  refine .mk ?_
  intro A s Q E O vs ao T ob r h
  cases r with | cons r1 r2 =>
  cases r2
  refine call_sum_walkG ?_
  refine (ITER.list (k := k) (fun d hd => by obtain ⟨i, _, rfl⟩ := List.mem_map.mp hd; rfl)).run A.in1 s _ _ _ ao.in1 T ob r1 fun I fp wr P St h2 t2 k2 W st0 hfp hwr hoff hP => ?_
  refine ⟨I, fp, wr, _, _, St, fun i => ns.getD i 0, rfl, W.bound, st0, fun b hb => let ⟨o, e, _⟩ := hfp b hb; Heap.lt_size e, fun i v hv => ?_, fun h' tk t' hk => ?_⟩
  · obtain ⟨hlt, hv⟩ := hv
    obtain ⟨d, hd, hsc⟩ := hP i v hv
    rw [List.getElem?_map] at hd
    obtain ⟨z, hz, rfl⟩ := Option.map_eq_some_iff.mp hd
    cases hsc
    exact ⟨_, by show _ = Value.int (ns.getD i 0) _; rw [List.getD_eq_getElem?_getD, hz]; rfl⟩
  · rw [List.length_map, preSum_list]
    exact h _ h' tk (fun b o e => hk b o (fun q => absurd (Heap.lt_size e) (Nat.not_lt.mpr (hwr b q))) (k2 b o e)) (.int ..)
end
end Mine
end
section -- W14
open PySem PySem.W PyProof.Rows PySem.Calls
set_option Elab.async false
set_option linter.all false
set_option maxRecDepth 100000
namespace Mine
section
theorem slot_bytes_split : Slot "bytes" "split" "bytes.split" :=
  .of (owner := "bytes") (n := "split") (by rw [typeLookup_type, builtinLookup_eq_fast]; kernel_rfl) (by decide +kernel) (by decide +kernel) (by decide +kernel)
    (by first | exact .inl (by decide +kernel) | exact .inr (by decide +kernel)) (by rw [isSubtype_type]; kernel_rfl)
theorem type_bytes_split : typeOf (.builtin "bytes.split") = pure (.type "method_descriptor") := by show builtinType _ = _; rw [builtinType_eq_fast]; kernel_rfl
theorem entry_bytes_split : entryFor table "bytes.split" = some Builtin.«bytes.split» := entryFor_of_tree (by kernel_rfl)
theorem args_bytes_split_2 (a b : Value) : argsOk "bytes.split" ⟨[a, b], []⟩ := by
  unfold argsOk; rw [signature?_of (id := "bytes.split") (n := ['t', 'i', 'l', 'p', 's']) (o := ['s', 'e', 't', 'y', 'b']) (by kernel_rfl) FB.owner_bytes]; kernel_rfl
theorem slot_bytes_count : Slot "bytes" "count" "bytes.count" :=
  .of (owner := "bytes") (n := "count") (by rw [typeLookup_type, builtinLookup_eq_fast]; kernel_rfl) (by decide +kernel) (by decide +kernel) (by decide +kernel)
    (by first | exact .inl (by decide +kernel) | exact .inr (by decide +kernel)) (by rw [isSubtype_type]; kernel_rfl)
theorem type_bytes_count : typeOf (.builtin "bytes.count") = pure (.type "method_descriptor") := by show builtinType _ = _; rw [builtinType_eq_fast]; kernel_rfl
theorem entry_bytes_count : entryFor table "bytes.count" = some Builtin.«bytes.count» := entryFor_of_tree (by kernel_rfl)
theorem args_bytes_count_2 (a b : Value) : argsOk "bytes.count" ⟨[a, b], []⟩ := by
  unfold argsOk; rw [signature?_of (id := "bytes.count") (n := ['t', 'n', 'u', 'o', 'c']) (o := ['s', 'e', 't', 'y', 'b']) (by kernel_rfl) FB.owner_bytes]; kernel_rfl
theorem slot_bytes_join : Slot "bytes" "join" "bytes.join" :=
  .of (owner := "bytes") (n := "join") (by rw [typeLookup_type, builtinLookup_eq_fast]; kernel_rfl) (by decide +kernel) (by decide +kernel) (by decide +kernel)
    (by first | exact .inl (by decide +kernel) | exact .inr (by decide +kernel)) (by rw [isSubtype_type]; kernel_rfl)
theorem type_bytes_join : typeOf (.builtin "bytes.join") = pure (.type "method_descriptor") := by show builtinType _ = _; rw [builtinType_eq_fast]; kernel_rfl
theorem entry_bytes_join : entryFor table "bytes.join" = some Builtin.«bytes.join» := entryFor_of_tree (by kernel_rfl)
theorem args_bytes_join_2 (a b : Value) : argsOk "bytes.join" ⟨[a, b], []⟩ := by
  unfold argsOk; rw [signature?_of (id := "bytes.join") (n := ['n', 'i', 'o', 'j']) (o := ['s', 'e', 't', 'y', 'b']) (by kernel_rfl) FB.owner_bytes]; kernel_rfl
end
section
variable {c : Cx} {k : Nat} {env : Env} {O₀ O : Addr → Prop} {ρ ρ₁ ρ₂ : List (Str × Ent)} {h₀ h h' h1 h2 h3 : Heap}
/-- data whose type is a built-in one that is no heap object -/
noncomputable def D.isT : D → String → Prop
  | .str _, T => T = "str"
  | .bytes _, T => T = "bytes"
  | _, _ => False
theorem Rep.typeIs {d : D} {T : String} {v : Value} {s : Shared} (r : Rep O s.heap v d) (hT : d.isT T) : s.TypeIs v T ∧ (∀ a, v ≠ .ref a) := by
  cases r with
  | str s t => obtain rfl : T = "str" := hT; exact ⟨typeIs_str _ _ _, fun a e => nomatch e⟩
  | bytes s t => obtain rfl : T = "bytes" := hT; exact ⟨typeIs_bytes _ _ _, fun a e => nomatch e⟩
  | none | bool | int | list | tup | range => exact hT.elim
/-- a call of a method with one argument -/
theorem EV.meth1 {o e : Expr} {name : Str} {apos pos : Pos} {T id : String} {d1 d2 d : D} (ho : EV c k env O ρ o d1) (he : EV c k env O ρ e d2) (hT : d1.isT T) (pa : PlainAttrs T) (slot : Slot T name id) (ty : typeOf (.builtin id) = pure (.type "method_descriptor"))
    (hc : CALL c k (.builtin id) [d1, d2] d)
    (hbase : attributeBase o name env (eval o env) = eval o env := by rfl) (hs : starEach [e] env = [(false, eval e env)] := by rfl) (hline : (apos.endLine == pos.line) = true := by rfl) :
    EV c k env O ρ (.Call (.Attribute o name apos) [e] [] pos) d := by
  refine .mk ?_
  intro A s Q E a T F h
  refine Call_method1 hbase hs hline (ho.run A s _ E a T F fun v1 h1 t1 k1 r1 => ?_)
  obtain ⟨ti, nr⟩ := r1.typeIs (s := { s with heap := h1, toks := t1 }) hT
  refine ⟨_, id, pa, slot, ty, ti, fun a e => absurd e (nr a), ?_⟩
  refine Calls.callWith_builtin rfl (Calls.evalArgs_plain (Calls.spliced_cons (he.run A { s with heap := h1, toks := t1 } _ E a (T.kp k1) (F.kp k1) fun v2 h2 t2 k2 r2 => Calls.spliced_nil ?_)))
  exact hc.run A _ Q E O _ a ((T.kp k1).kp k2) ((F.kp k1).kp k2).ob (.cons (r1.kp k2) (.cons r2 .nil)) fun v h' tk k3 r3 => h v h' tk ((k1.trans k2).trans k3) r3

/-- splitting at a byte -/
noncomputable def split1 (x : UInt8) : List UInt8 → List (List UInt8)
  | [] => [[]]
  | y :: r => if y = x then [] :: split1 x r else match split1 x r with
    | h :: t => (y :: h) :: t
    | [] => [[y]]
theorem split1_ne (x : UInt8) : ∀ l, split1 x l ≠ []
  | [] => by simp [split1]
  | y :: r => by
    unfold split1
    split
    · simp
    · cases e : split1 x r <;> simp
noncomputable def posOf (x : UInt8) : Nat → List UInt8 → List Nat
  | _, [] => []
  | k, y :: r => if y = x then k :: posOf x (k + 1) r else posOf x (k + 1) r
theorem occ_go (x : UInt8) (b : Array UInt8) : ∀ (l : List UInt8) (k m : Nat) (acc : List Nat), (∀ i, l[i]? = b[k + i]?) → m ≤ k →
    (((List.range' k l.length)).foldl (fun (acc : List Nat × Nat) (i : Nat) => if (decide (i ≥ acc.2) && b.extract i (i + (#[x] : Array UInt8).size) == #[x]) = true then (i :: acc.1, i + (#[x] : Array UInt8).size) else acc) (acc, m)).1 = (posOf x k l).reverse ++ acc
  | [], k, m, acc, _, _ => by simp [posOf]
  | y :: r, k, m, acc, h, hm => by
    rw [List.length_cons, List.range'_succ, List.foldl_cons]
    have hy : b[k]? = some y := by have := h 0; simpa using this.symm
    obtain ⟨hlt, hy'⟩ := Array.getElem?_eq_some_iff.mp hy
    have hex : b.extract k (k + 1) = #[y] := by
      apply Array.ext
      · simp; omega
      · intro i h1 h2
        have : i = 0 := by simp at h2; omega
        subst this
        simp [hy']
    have hr : ∀ i, r[i]? = b[k + 1 + i]? := fun i => by
      have := h (i + 1)
      rw [List.getElem?_cons_succ] at this
      rw [this]; congr 1; omega
    show (List.foldl _ (if (decide (k ≥ m) && b.extract k (k + 1) == #[x]) = true then (k :: acc, k + 1) else (acc, m)) _).1 = _
    rw [hex]
    unfold posOf
    by_cases q : y = x
    · subst q
      have : (decide (k ≥ m) && (#[y] == #[y] : Bool)) = true := by simp [hm]
      rw [if_pos this, if_pos rfl]
      have ih := occ_go y b r (k + 1) (k + 1) (k :: acc) hr (Nat.le_refl _)
      refine ih.trans ?_
      simp
    · have : (decide (k ≥ m) && (#[y] == #[x] : Bool)) = false := by simp [q]
      rw [if_neg (by rw [this]; simp), if_neg q]
      exact occ_go x b r (k + 1) m acc hr (Nat.le_succ_of_le hm)
theorem occ_is (x : UInt8) (l : List UInt8) : Builtin.Bytes.occurrences l.toArray #[x] 0 l.length = posOf x 0 l := by
  unfold Builtin.Bytes.occurrences
  have := occ_go x l.toArray l 0 0 [] (fun i => by simp) (Nat.le_refl _)
  have e : (List.range (l.length + 1 - (0 + (#[x] : Array UInt8).size))).map (· + 0) = List.range' 0 l.length := by
    simp [List.range_eq_range']
  dsimp only
  rw [e, this]
  simp
theorem posOf_length (x : UInt8) : ∀ (l : List UInt8) (k : Nat), (posOf x k l).length = l.count x
  | [], k => rfl
  | y :: r, k => by
    unfold posOf
    rw [List.count_cons]
    by_cases q : y = x
    · rw [if_pos q, if_pos (by simp [q]), List.length_cons, posOf_length x r]
    · rw [if_neg q, if_neg (by simp [q]), posOf_length x r]; rfl
noncomputable def preTo (p : List UInt8) : List (List UInt8) → List (List UInt8)
  | [] => [p]
  | h :: t => (p ++ h) :: t
theorem between_go (x : UInt8) (b : List UInt8) : ∀ (l : List UInt8) (k m : Nat) (acc : Array (Array UInt8)), (∀ i, l[i]? = b[k + i]?) → m ≤ k → k + l.length = b.length →
    (((posOf x k l).foldl (fun (p : Array (Array UInt8) × Nat) q => (p.1.push (b.toArray.extract p.2 q), q + 1)) (acc, m)).1.push
      (b.toArray.extract ((posOf x k l).foldl (fun (p : Array (Array UInt8) × Nat) q => (p.1.push (b.toArray.extract p.2 q), q + 1)) (acc, m)).2 b.length)).toList = acc.toList ++ (preTo ((b.drop m).take (k - m)) (split1 x l)).map List.toArray
  | [], k, m, acc, _, hm, hk => by
    have hk : k = b.length := by simpa using hk
    subst hk
    simp [posOf, split1, preTo]
  | y :: r, k, m, acc, h, hm, hk => by
    have hr : ∀ i, r[i]? = b[k + 1 + i]? := fun i => by
      have := h (i + 1)
      rw [List.getElem?_cons_succ] at this
      rw [this]; congr 1; omega
    have hk' : k + 1 + r.length = b.length := by rw [← hk, List.length_cons]; omega
    have hy : b[k]? = some y := by have := h 0; simpa using this.symm
    unfold posOf split1
    by_cases q : y = x
    · subst q
      rw [if_pos rfl, if_pos rfl, List.foldl_cons]
      have ih := between_go y b r (k + 1) (k + 1) (acc.push (b.toArray.extract m k)) hr (Nat.le_refl _) hk'
      refine ih.trans ?_
      have e : preTo ((b.drop (k + 1)).take (k + 1 - (k + 1))) (split1 y r) = split1 y r := by
        cases e : split1 y r with
        | nil => exact absurd e (split1_ne y r)
        | cons a t => simp [preTo]
      rw [e]
      simp [preTo]
    · rw [if_neg q, if_neg q]
      have ih := between_go x b r (k + 1) m acc hr (Nat.le_succ_of_le hm) hk'
      refine ih.trans ?_
      have e : (b.drop m).take (k + 1 - m) = (b.drop m).take (k - m) ++ [y] := by
        rw [show k + 1 - m = (k - m) + 1 by omega, List.take_succ, List.getElem?_drop, show m + (k - m) = k by omega, hy]; rfl
      rw [e]
      cases e2 : split1 x r with
      | nil => exact absurd e2 (split1_ne x r)
      | cons a t => simp [preTo]
theorem between_is (x : UInt8) (l : List UInt8) : Builtin.Bytes.between l.toArray 1 (posOf x 0 l) = (split1 x l).map List.toArray := by
  have := between_go x l l 0 0 #[] (fun i => by simp) (Nat.le_refl _) (by simp)
  unfold Builtin.Bytes.between
  have e : preTo ((l.drop 0).take (0 - 0)) (split1 x l) = split1 x l := by
    cases e : split1 x l with
    | nil => exact absurd e (split1_ne x l)
    | cons a t => simp [preTo]
  rw [e] at this
  simpa using this
end
end Mine
end
section -- W15
open PySem PySem.W PyProof.Rows PySem.Calls
set_option Elab.async false
set_option linter.all false
set_option maxRecDepth 100000
namespace Mine
section
variable {c : Cx} {k : Nat} {env : Env} {O₀ O : Addr → Prop} {ρ ρ₁ ρ₂ : List (Str × Ent)} {h₀ h h' h1 h2 h3 : Heap}
noncomputable def bytesFrom : Nat → List (List UInt8) → List Value
  | _, [] => []
  | t, b :: r => .bytes b.toArray t :: bytesFrom (t + 1) r
theorem bytesFrom_rep : ∀ (l : List (List UInt8)) (t : Nat), RepL O h (bytesFrom t l) (l.map .bytes)
  | [], _ => .nil
  | b :: r, t => .cons (.bytes b t) (bytesFrom_rep r (t + 1))
theorem bytesFrom_length : ∀ (l : List (List UInt8)) (t : Nat), (bytesFrom t l).length = l.length
  | [], _ => rfl
  | b :: r, t => congrArg Nat.succ (bytesFrom_length r (t + 1))
theorem wpAny_mapM_bytes {M : Model} {A : Around} {E : Value → Shared → Prop} : ∀ (l : List (List UInt8)) (s : Shared) (Q : List Value → Shared → Prop), (∀ b ∈ l, b.length ≤ 16777216) →
    Q (bytesFrom s.toks l) { s with toks := s.toks + l.length } → wpAny M A ((l.map List.toArray).mapM (Builtin.Bytes.Kind.new .bytes)) Q E s
  | [], s, Q, _, h => by
    rw [List.map_nil, List.mapM_nil]
    exact wpAny_pure h
  | b :: r, s, Q, hz, h => by
    rw [List.map_cons, List.mapM_cons]
    refine wpAny_bind (wpAny_mkBytes ?_ (by rw [sizeLine_eq]; simpa using hz b List.mem_cons_self))
    refine wpAny_bind (wpAny_mapM_bytes r _ _ (fun b' hb' => hz b' (List.mem_cons_of_mem _ hb')) (wpAny_pure ?_))
    have e : s.toks + 1 + r.length = s.toks + (b :: r).length := by simp [Nat.add_comm, Nat.add_left_comm]
    show Q (.bytes b.toArray s.toks :: bytesFrom (s.toks + 1) r) { s with toks := s.toks + 1 + r.length }
    rw [e]; exact h
theorem split1_short (x : UInt8) : ∀ (l : List UInt8), (split1 x l).length ≤ l.length + 1 ∧ ∀ p ∈ split1 x l, p.length ≤ l.length
  | [] => by simp [split1]
  | y :: r => by
    obtain ⟨h1, h2⟩ := split1_short x r
    unfold split1
    split
    · refine ⟨by simp; omega, fun p hp => ?_⟩
      rcases List.mem_cons.mp hp with q | q
      · subst q; simp
      · exact Nat.le_succ_of_le (h2 p q)
    · cases e : split1 x r with
      | nil => exact absurd e (split1_ne x r)
      | cons a t =>
        rw [e] at h1 h2
        refine ⟨by simpa using Nat.le_succ_of_le h1, fun p hp => ?_⟩
        rcases List.mem_cons.mp hp with q | q
        · subst q; simpa using h2 a List.mem_cons_self
        · exact Nat.le_succ_of_le (h2 p (List.mem_cons_of_mem _ q))
theorem split1_none (x : UInt8) : ∀ (l : List UInt8) (k : Nat), posOf x k l = [] → split1 x l = [l]
  | [], _, _ => rfl
  | y :: r, k, h => by
    unfold posOf at h
    unfold split1
    split at h
    · cases h
    · rename_i q
      rw [if_neg q, split1_none x r _ h]
theorem CALL.bsplit {l : List UInt8} {x : UInt8} (hz : l.length < 16777216) : CALL c k (.builtin "bytes.split") [.bytes l, .bytes [x]] (.list ((split1 x l).map .bytes)) := by
  refine .mk ?_
  intro A s Q E O vs ao T ob r h
  cases r with | cons r1 r2 =>
  cases r2 with | cons r2 r3 =>
  cases r3
  cases r1 with | bytes _ t1 =>
  cases r2 with | bytes _ t2 =>
  refine wpAny_call_entry slot_bytes_split (typeIs_bytes _ _ _) entry_bytes_split ?_ (args_bytes_split_2 _ _)
  show wpAny _ _ (Builtin.Bytes.bytesLike "bytes.split" (.bytes #[x] t2) >>= _) _ _ s
  refine wpAny_bind ?_
  unfold Builtin.Bytes.bytesLike
  rw [KBy.buffer_eq]
  refine wpAny_bind (wpAny_pure (wpAny_pure ?_))
  rw [if_neg (by simp)]
  show wpAny _ _ (if ((Builtin.Bytes.occurrences l.toArray #[x] 0 l.toArray.size).take (l.toArray.size + 1)).isEmpty = true then _ else _) _ _ s
  have hsz : l.toArray.size = l.length := by simp
  rw [hsz, occ_is]
  have ht : (posOf x 0 l).take (l.length + 1) = posOf x 0 l := List.take_of_length_le (by rw [posOf_length]; exact Nat.le_succ_of_le List.count_le_length)
  obtain ⟨z1, z2⟩ := split1_short x l
  by_cases he : (posOf x 0 l).isEmpty = true
  · rw [ht, if_pos he]
    rw [split1_none x l 0 (by simpa using he)] at h
    refine wpAny_bind (wpAny_rule ?_)
    refine wpAny_bind (m := Builtin.Bytes.Kind.same .bytes (.bytes l.toArray t1)) ?_
    unfold Builtin.Bytes.Kind.same
    show wpAny _ _ (typeOf (.bytes l.toArray t1) >>= _) _ _ s
    refine wpAny_bind (wpAny_typeOf (typeIs_bytes s l.toArray t1) ?_)
    refine wpAny_pure ?_
    refine wpAny_bind (wpAny_newList (wpAny_pure ⟨_, rfl, ?_⟩) (by rw [sizeLine_eq]; simp))
    exact h _ _ _ Kp.push (rep_newList ob (.cons (.bytes l t1) .nil))
  · rw [ht, if_neg he]
    show wpAny _ _ (List.mapM (Builtin.Bytes.Kind.new .bytes) (Builtin.Bytes.between l.toArray 1 ((posOf x 0 l).take (l.length + 1))) >>= _) _ _ s
    rw [ht, between_is]
    refine wpAny_bind (wpAny_mapM_bytes (split1 x l) s _ (fun b hb => Nat.le_trans (z2 b hb) (Nat.le_of_lt hz)) ?_)
    refine wpAny_bind (wpAny_newList (wpAny_pure ⟨_, rfl, ?_⟩) (by rw [bytesFrom_length, sizeLine_eq]; omega))
    exact h _ _ _ Kp.push (rep_newList ob (bytesFrom_rep _ _))
theorem CALL.bcount {l : List UInt8} {x : UInt8} : CALL c k (.builtin "bytes.count") [.bytes l, .bytes [x]] (.int (l.count x : Nat)) := by
  refine .mk ?_
  intro A s Q E O vs ao T ob r h
  cases r with | cons r1 r2 =>
  cases r2 with | cons r2 r3 =>
  cases r3
  cases r1 with | bytes _ t1 =>
  cases r2 with | bytes _ t2 =>
  refine wpAny_call_entry slot_bytes_count (typeIs_bytes _ _ _) entry_bytes_count ?_ (args_bytes_count_2 _ _)
  show wpAny _ _ (Builtin.Bytes.searchArgs .bytes "count" ⟨[.bytes l.toArray t1, .bytes #[x] t2], []⟩ >>= _) _ _ s
  refine wpAny_bind ?_
  show wpAny _ _ (Builtin.Bytes.buffer? "bytes.count" (.bytes #[x] t2) >>= _) _ _ s
  rw [KBy.buffer_eq]
  refine wpAny_bind (wpAny_pure ?_)
  refine wpAny_pure ?_
  have hsz : l.toArray.size = l.length := by simp
  have hw : Builtin.Bytes.window l.toArray.size none none = (0, (l.length : Int)) := by
    unfold Builtin.Bytes.window
    simp only [Option.getD_none, hsz]
    rw [if_neg (by omega), if_neg (by omega), Int.min_self]
  show wpAny _ _ (match (if (Builtin.Bytes.window l.toArray.size none none).2 - (Builtin.Bytes.window l.toArray.size none none).1 < (#[x] : Array UInt8).size then (none : Option (Nat × Nat)) else some ((Builtin.Bytes.window l.toArray.size none none).1.toNat, (Builtin.Bytes.window l.toArray.size none none).2.toNat)) with
    | none => retInt 0
    | some (lo, hi) => if (#[x] : Array UInt8).isEmpty then (do rule "bytes.count.empty-sub"; retInt (hi - lo + 1 : Nat)) else retInt (Builtin.Bytes.occurrences l.toArray #[x] lo hi).length) _ _ s
  rw [hw]
  by_cases h0 : l.length = 0
  · rw [if_pos (by simp [h0])]
    have : l = [] := List.length_eq_zero_iff.mp h0
    subst this
    exact wpAny_bind (wpAny_mkInt (wpAny_pure ⟨_, rfl, h _ s.heap _ Kp.refl (.int ..)⟩))
  · rw [if_neg (by simp; omega)]
    show wpAny _ _ (if (#[x] : Array UInt8).isEmpty = true then _ else _) _ _ s
    rw [if_neg (by simp)]
    simp only [Int.toNat_zero, Int.toNat_natCast]
    rw [occ_is, posOf_length]
    exact wpAny_bind (wpAny_mkInt (wpAny_pure ⟨_, rfl, h _ s.heap _ Kp.refl (.int ..)⟩))
end
end Mine
end
section -- W16
open PySem PySem.W PyProof.Rows PySem.Calls
set_option Elab.async false
set_option linter.all false
set_option maxRecDepth 100000
namespace Mine
section
variable {c : Cx} {k : Nat} {env : Env} {O₀ O : Addr → Prop} {ρ ρ₁ ρ₂ : List (Str × Ent)} {h₀ h h' h1 h2 h3 : Heap}
theorem buffer_full {id : String} {f : Bool} {b : Array UInt8} {t : Tok} : Builtin.Bytes.buffer? id (.bytes b t) f = pure (some b) := by
  unfold Builtin.Bytes.buffer?
  rw [KBy.special_eq KBy.look_buffer, KBy.own_buffer, KBy.own_release]
  kernel_rfl
theorem take_eq {id : String} {b : Array UInt8} {t : Tok} : Builtin.Bytes.takeBufferQuiet? id (.bytes b t) 0 = pure (some (b, none)) := by
  unfold Builtin.Bytes.takeBufferQuiet? Builtin.Bytes.takeBuffer?
  rw [KBy.special_eq KBy.look_buffer, KBy.own_buffer]
  show ((Builtin.Bytes.buffer? id (.bytes b t) (0 == Builtin.Bytes.fullReadOnly) >>= fun r => pure (r.map (·, none))).attempt >>= _) = _
  rw [buffer_full]
  rfl
noncomputable def joinB (x : UInt8) : List (List UInt8) → List UInt8
  | [] => []
  | [p] => p
  | p :: q :: r => p ++ x :: joinB x (q :: r)
theorem joined_go (x : UInt8) : ∀ (ps : List (List UInt8)) (j : Nat) (out : Array UInt8), 0 < j → ((ps.map List.toArray).zipIdx j).foldl (fun out (p : Array UInt8 × Nat) => (if p.2 > 0 then out ++ #[x] else out) ++ p.1) out = out ++ (ps.flatMap fun p => x :: p).toArray
  | [], j, out, h => by simp
  | p :: r, j, out, h => by
    rw [List.map_cons, List.zipIdx_cons, List.foldl_cons]
    dsimp only
    rw [if_pos h, joined_go x r (j + 1) _ (Nat.succ_pos j)]
    simp
theorem joinB_eq (x : UInt8) : ∀ (p : List UInt8) (r : List (List UInt8)), joinB x (p :: r) = p ++ r.flatMap fun p => x :: p
  | p, [] => by simp [joinB]
  | p, q :: r => by
    unfold joinB
    rw [joinB_eq x q r]
    simp
theorem joined_is (x : UInt8) (ps : List (List UInt8)) : Builtin.Bytes.joined #[x] (ps.map List.toArray) = (joinB x ps).toArray := by
  unfold Builtin.Bytes.joined
  cases ps with
  | nil => rfl
  | cons p r =>
    rw [List.map_cons, List.zipIdx_cons, List.foldl_cons, joinB_eq]
    have := joined_go x r (0 + 1) ((if (0 : Nat) > 0 then (#[] : Array UInt8) ++ #[x] else #[]) ++ p.toArray) (by decide)
    refine this.trans ?_
    simp
theorem letGo_all {M : Model} {A : Around} {E : Value → Shared → Prop} {keep : List Value} : ∀ (l : List (Value × Option Value)) (s : Shared) (Q : Unit → Shared → Prop), (∀ p ∈ l, p.2 = none) → Q () s → wpAny M A (Builtin.Bytes.joinLetGo l keep) Q E s
  | [], s, Q, _, h => by unfold Builtin.Bytes.joinLetGo; exact wpAny_pure h
  | (x, w) :: r, s, Q, hn, h => by
    obtain rfl : w = none := hn _ List.mem_cons_self
    unfold Builtin.Bytes.joinLetGo
    exact wpAny_bind (wpAny_letGo (letGo_all r s Q (fun p hp => hn p (List.mem_cons_of_mem _ hp)) h))
theorem list_loop {M : Model} {A : Around} {E : Value → Shared → Prop} {β : Type} (f : Nat → β → Sem (ForInStep β)) (I : Nat → β → Shared → Prop) (n : Nat)
    (h : ∀ i b s, i < n → I i b s → wpAny M A (f i b) (fun r s' => ∃ b', r = .yield b' ∧ I (i + 1) b' s') E s) : ∀ (m i : Nat) (b : β) (s : Shared) (Q : β → Shared → Prop), i + m = n → I i b s → (∀ b s, I n b s → Q b s) → wpAny M A (forIn (List.range' i m) b f) Q E s
  | 0, i, b, s, Q, e, hI, hQ => by
    obtain rfl : i = n := by omega
    rw [List.range'_zero, List.forIn_nil]
    exact wpAny_pure (hQ b s hI)
  | m + 1, i, b, s, Q, e, hI, hQ => by
    rw [List.range'_succ, List.forIn_cons]
    refine wpAny_bind (wpAny_mono (h i b s (by omega) hI) (fun r s' hr => ?_) fun _ _ e => e)
    obtain ⟨b', rfl, hI'⟩ := hr
    exact list_loop f I n h m (i + 1) b' s' Q (by omega) hI' hQ
theorem range_loop {M : Model} {A : Around} {E : Value → Shared → Prop} {β : Type} {f : Nat → β → Sem (ForInStep β)} (I : Nat → β → Shared → Prop) {n : Nat} {b : β} {s : Shared} {Q : β → Shared → Prop}
    (h : ∀ i b s, i < n → I i b s → wpAny M A (f i b) (fun r s' => ∃ b', r = .yield b' ∧ I (i + 1) b' s') E s) (h0 : I 0 b s) (hQ : ∀ b s, I n b s → Q b s) : wpAny M A (forIn [:n] b f) Q E s := by
  rw [Std.Legacy.Range.forIn_eq_forIn_range']
  have e : List.range' ([:n] : Std.Legacy.Range).start ([:n] : Std.Legacy.Range).size ([:n] : Std.Legacy.Range).step = List.range' 0 n := by simp [Std.Legacy.Range.size]
  rw [e]
  exact list_loop f I n h n 0 b s Q (by omega) h0 hQ
theorem foldl_sizes : ∀ (ps : List (List UInt8)) (z : Nat), (ps.map List.toArray).foldl (fun (n : Nat) (p : Array UInt8) => n + p.size) z = z + (ps.map List.length).sum
  | [], z => by simp
  | p :: r, z => by
    rw [List.map_cons, List.foldl_cons, foldl_sizes r, List.map_cons, List.sum_cons]
    simp; omega
theorem joinB_len (x : UInt8) : ∀ (ps : List (List UInt8)), (joinB x ps).length ≤ (ps.map List.length).sum + ps.length
  | [] => by simp [joinB]
  | [p] => by simp [joinB]
  | p :: q :: r => by
    have := joinB_len x (q :: r)
    unfold joinB
    simp only [List.length_append, List.length_cons, List.map_cons, List.sum_cons] at this ⊢
    omega
theorem letGo_bind {M : Model} {A : Around} {E : Value → Shared → Prop} {keep : List Value} {s : Shared} {α : Type} {g : Unit → Sem α} {Q : α → Shared → Prop} (l : List (Value × Option Value)) (hl : ∀ p ∈ l, p.2 = none) (h : wpAny M A (g ()) Q E s) : wpAny M A (Builtin.Bytes.joinLetGo l keep >>= g) Q E s :=
  wpAny_bind (letGo_all l s _ hl h)
theorem CALL.bjoin {x : UInt8} {ps : List (List UInt8)} (hz : (ps.map List.length).sum + ps.length ≤ 16777216) : CALL c k (.builtin "bytes.join") [.bytes [x], .list (ps.map .bytes)] (.bytes (joinB x ps)) := by
  refine .mk ?_
  intro A s Q E O vs ao T ob r h
  cases r with | cons r1 r2 =>
  cases r2 with | cons r2 r3 =>
  cases r3
  cases r1 with | bytes _ t1 =>
  cases r2 with | list hl ho rl =>
  rename_i a vs
  refine wpAny_call_entry slot_bytes_join (typeIs_bytes _ _ _) entry_bytes_join ?_ (args_bytes_join_2 _ _)
  show wpAny _ _ (Builtin.Bytes.joinItems (.ref a) >>= _) _ _ s
  refine wpAny_bind ?_
  unfold Builtin.Bytes.joinItems
  refine wpAny_bind (wpAny_typeOf hl.typeIs ?_)
  refine wpAny_pure ?_
  obtain ⟨o, hoo, hc, n, hd⟩ := id hl
  show wpAny _ _ (seqItems? (.ref a) >>= _) _ _ s
  refine wpAny_bind (wpAny_seqItems hoo hd ?_)
  have hn : vs.length = ps.length := by rw [rl.length, List.length_map]
  have get : ∀ i, i < ps.length → ∃ t, vs.toArray.getD i .none = .bytes (ps.getD i []).toArray t := fun i hi => by
    obtain ⟨v, e, rv⟩ := rl.get (i := i) (d := .bytes (ps.getD i [])) (by rw [List.getElem?_map, List.getD_eq_getElem?_getD]; simp [hi])
    cases rv with | bytes _ t =>
    exact ⟨t, by rw [Array.getD_eq_getD_getElem?]; simp [e]⟩
  by_cases h1 : ps.length = 1
  · obtain ⟨p, rfl⟩ := List.length_eq_one_iff.mp h1
    cases rl with | cons r1 r2 =>
    cases r2
    cases r1 with | bytes _ tp =>
    show wpAny _ _ (typeOf (.bytes p.toArray tp) >>= _) _ _ s
    refine wpAny_bind (wpAny_typeOf (typeIs_bytes s p.toArray tp) ?_)
    show wpAny _ _ (rule _ >>= _) _ _ s
    refine wpAny_bind (wpAny_rule ?_)
    exact wpAny_pure ⟨_, rfl, h _ s.heap s.toks Kp.refl (.bytes p tp)⟩
  · have body : ∀ (i : Nat) (b : Array (Array UInt8) × List (Value × Option Value)) (s' : Shared), i < vs.toArray.size → (s' = s ∧ b.1.toList = (ps.take i).map List.toArray ∧ ∀ p ∈ b.2, p.2 = none ∧ p.1.onHeap = false) → True := fun _ _ _ _ _ => trivial
    have ht : ∀ i, i < ps.length → (ps.take (i + 1)).map List.toArray = (ps.take i).map List.toArray ++ [(ps.getD i []).toArray] := fun i hi => by
      rw [List.take_succ, List.map_append, List.getElem?_eq_getElem hi, List.getD_eq_getElem?_getD, List.getElem?_eq_getElem hi]
      rfl
    have hsz : vs.toArray.size = ps.length := by simp [hn]
    have main : ∀ (f : Nat → Array (Array UInt8) × List (Value × Option Value) → Sem (ForInStep (Array (Array UInt8) × List (Value × Option Value)))) (g : Array (Array UInt8) × List (Value × Option Value) → Sem Fin) (Q' : Fin → Shared → Prop),
        (∀ i b, i < ps.length → (b.1.toList = (ps.take i).map List.toArray ∧ ∀ p ∈ b.2, p.2 = none ∧ p.1.onHeap = false) → wpAny (MM c) A.in1 (f i b) (fun r s' => ∃ b', r = .yield b' ∧ s' = s ∧ b'.1.toList = (ps.take (i + 1)).map List.toArray ∧ ∀ p ∈ b'.2, p.2 = none ∧ p.1.onHeap = false) E s) →
        (∀ b, b.1.toList = ps.map List.toArray → (∀ p ∈ b.2, p.2 = none) → wpAny (MM c) A.in1 (g b) Q' E s) → wpAny (MM c) A.in1 (forIn [:vs.toArray.size] ((#[] : Array (Array UInt8)), ([] : List (Value × Option Value))) f >>= g) Q' E s := by
      intro f g Q' hf hg
      refine wpAny_bind (range_loop (fun i b s' => s' = s ∧ b.1.toList = (ps.take i).map List.toArray ∧ ∀ p ∈ b.2, p.2 = none ∧ p.1.onHeap = false) (fun i b s' hi hI => ?_) ⟨rfl, by simp, by simp⟩ fun b s' hI => ?_)
      · obtain ⟨rfl, h1, h2⟩ := hI
        exact hf i b (by omega) ⟨h1, h2⟩
      · obtain ⟨rfl, h1, h2⟩ := hI
        rw [hsz, List.take_length] at h1
        exact hg b h1 fun p hp => (h2 p hp).1
    have fin : ∀ (b : Array (Array UInt8) × List (Value × Option Value)), b.1.toList = ps.map List.toArray → (∀ p ∈ b.2, p.2 = none) → wpAny (MM c) A.in1 (do
        let sep ← Builtin.Bytes.payload (.bytes #[x] t1)
        if Builtin.Bytes.tooLong (b.1.foldl (· + ·.size) (sep.size * (b.1.size - 1))) then unsupported "bytes.join:memory"
        let result ← Builtin.Bytes.Kind.new .bytes (Builtin.Bytes.joined sep b.1.toList)
        holding (result :: b.2.flatMap fun (y, u) => y :: u.toList) point
        Builtin.Bytes.joinLetGo b.2 [result]
        ret result) (fun fin s' => ∃ v, fin = Fin.done (Flow.ret v) ∧ Q v s') E s := by
      intro b hb hl
      refine wpAny_bind (wpAny_pure ?_)
      have hbs : b.1.size = ps.length := by rw [← Array.length_toList, hb, List.length_map]
      have hfold : b.1.foldl (fun (n : Nat) (p : Array UInt8) => n + p.size) ((#[x] : Array UInt8).size * (b.1.size - 1)) = (ps.length - 1) + (ps.map List.length).sum := by
        rw [← Array.foldl_toList, hb, foldl_sizes, hbs]
        simp
      have hb2 : (joinB x ps).length ≤ 16777216 := Nat.le_trans (joinB_len x ps) hz
      dsimp only
      rw [hfold, KBy.tooLong_not (by omega)]
      rw [if_neg (by simp)]
      rw [hb, joined_is]
      refine wpAny_bind (wpAny_mkBytes ?_ (by rw [sizeLine_eq]; simpa using hb2))
      refine wpAny_bind (wpAny_holding (wpAny_point (letGo_bind b.2 hl ?_)))
      exact wpAny_pure ⟨_, rfl, h _ s.heap _ Kp.refl (.bytes (joinB x ps) _)⟩
    have turn : ∀ (i : Nat) (b : Array (Array UInt8) × List (Value × Option Value)), i < ps.length → (b.1.toList = (ps.take i).map List.toArray ∧ ∀ p ∈ b.2, p.2 = none ∧ p.1.onHeap = false) →
        ∃ t, vs.toArray.getD i .none = .bytes (ps.getD i []).toArray t ∧ ((b.1.push (ps.getD i []).toArray).toList = (ps.take (i + 1)).map List.toArray ∧ ∀ p ∈ b.2 ++ [(Value.bytes (ps.getD i []).toArray t, (none : Option Value))], p.2 = none ∧ p.1.onHeap = false) := by
      intro i b hi hI
      obtain ⟨t, e⟩ := get i hi
      refine ⟨t, e, by rw [Array.toList_push, hI.1, ht i hi], fun p hp => ?_⟩
      rcases List.mem_append.mp hp with q | q
      · exact hI.2 p q
      · rw [List.mem_singleton.mp q]; exact ⟨rfl, rfl⟩
    match vs, hn, main, turn, hd, h1, hsz with
    | [], hn, main, turn, hd, _, _ =>
      refine main _ _ _ (fun i b hi hI => ?_) fun b hb hl => fin b hb hl
      exact absurd hi (by rw [← hn]; simp)
    | [v], hn, _, _, _, h1, _ => exact absurd hn.symm h1
    | v :: w :: r, hn, main, turn, hd, _, hsz =>
      refine main _ _ _ (fun i b hi hI => ?_) fun b hb hl => fin b hb hl
      obtain ⟨t, e, hI'⟩ := turn i b hi hI
      refine wpAny_bind (wpAny_seqItems hoo hd ?_)
      show wpAny _ _ (if ((false || b.2.any (·.1.onHeap)) = true) then _ else _) _ _ s
      have hany : (false || b.2.any (·.1.onHeap)) = false := by
        rw [Bool.false_or, List.any_eq_false]
        intro p hp
        rw [(hI.2 p hp).2]; simp
      rw [hany, if_neg (by simp)]
      refine wpAny_bind (wpAny_holding ?_)
      rw [e, take_eq]
      refine wpAny_pure ?_
      refine wpAny_bind (wpAny_seqItems hoo hd ?_)
      show wpAny _ _ (if ((v :: w :: r).toArray.size != (v :: w :: r).toArray.size) = true then _ else _) _ _ s
      rw [if_neg (by simp)]
      exact wpAny_pure ⟨_, rfl, rfl, hI'⟩
end
end Mine
end
section -- W17
open PySem PySem.W PyProof.Rows PySem.Calls
set_option Elab.async false
set_option linter.all false
set_option maxRecDepth 100000
namespace Mine
section
variable {c : Cx} {k : Nat} {env : Env} {O₀ O : Addr → Prop} {ρ ρ₁ ρ₂ : List (Str × Ent)} {h₀ h h' h1 h2 h3 : Heap}
theorem EV.neg {e : Expr} {p : Pos} {i : Int} (he : EV c k env O ρ e (.int i)) : EV c k env O ρ (.UnaryOp .USub e p) (.int (-i)) := by
  refine .mk ?_
  intro A s Q E a T F h
  exact wpAny_UnaryOp (he.run A s _ E a T F fun v h1 t1 k1 r1 => by cases r1; exact PyProof.Rows.neg_int (h _ h1 _ k1 (.int ..)))
theorem EV.sliceBytes {value : Expr} {lower upper : Option Expr} {p pos : Pos} {lo hi : Option Int} {b : List UInt8} (hv : EV c k env O ρ value (.bytes b)) (hl : EVo c k env O ρ lower lo) (hu : EVo c k env O ρ upper hi) (hz : b.length ≤ 16777216)
    (ht : ∀ o r, letTemporaryGo value o r = pure () := by intro _ _; rfl) :
    EV c k env O ρ (.Subscript value (.Slice lower upper none p) pos) (.bytes ((b.drop (lo.elim 0 (clipAt b.length))).take (hi.elim b.length (clipAt b.length) - lo.elim 0 (clipAt b.length)))) := by
  refine .mk ?_
  intro A s Q E a T F h
  refine wpAny_Subscript_Slice (T := "bytes") FB.slot_bytes_getitem.lookup (hv.run A s _ E a T F fun v h1 t1 k1 r1 => wpAny_Slice (EVo.run hl a (T.kp k1) (F.kp k1) fun vl h2 t2 k2 p2 => EVo.run hu a ((T.kp k1).kp k2) ((F.kp k1).kp k2) fun vu h3 t3 k3 p3 => ?_)) ht
  cases r1 with | bytes _ tb =>
  rw [evalPart_none]
  have hsz : b.toArray.size = b.length := by simp
  refine wpAny_pure ⟨typeIs_bytes _ _ _, getItem_meets (typeIs_bytes _ _ _) (by decide) FB.slot_bytes_getitem FB.entry_bytes_getitem (FB.args_bytes_getitem_2 _ _) (KBc.meets_slice2 b.toArray tb _ p2 p3)
    ⟨Heap.IsSliceOf.new _ _ _ _, Nat.le_trans (KBc.size_picked_le _ lo hi) (by rw [sizeLine_eq, hsz]; exact hz), fun t' kk => ?_⟩⟩
  rw [KBc.picked_eq, hsz]
  exact h _ _ _ (((k1.trans k2).trans k3).trans Kp.push) (.bytes _ _)
theorem repInts : ∀ {vs : List Value} {ns : List Int}, RepL O h vs (ns.map .int) → IntsAre vs ns
  | [], [], _ => .nil
  | v :: vs, n :: ns, r => by
    rw [List.map_cons] at r
    cases r with | cons a b =>
    cases a
    exact .cons _ _ (repInts b)
theorem CMP.eqInts {a b : List Int} : CMP c (k + 3) .Eq (.list (a.map .int)) (.list (b.map .int)) (decide (a = b)) := by
  refine .mk ?_
  intro A s Q E O vl vr ao T x y h
  cases x with | list hl ho rl =>
  cases y with | list hl2 ho2 rl2 =>
  exact ke_eq_ints hl hl2 (repInts rl) (repInts rl2) (by have := ao.units; omega) h
theorem CMP.neInts {a b : List Int} : CMP c (k + 3) .NotEq (.list (a.map .int)) (.list (b.map .int)) (!decide (a = b)) := by
  refine .mk ?_
  intro A s Q E O vl vr ao T x y h
  cases x with | list hl ho rl =>
  cases y with | list hl2 ho2 rl2 =>
  exact ke_ne_ints hl hl2 (repInts rl) (repInts rl2) (by have := ao.units; omega) h
noncomputable abbrev sD (s : List Nat) : PyData := .str ⟨s.toArray⟩
theorem canLay_strs : ∀ ns : List (List Nat), (∀ s ∈ ns, PyData.strOk ⟨s.toArray⟩ = true) → PyData.canLayAll0 (ns.map sD) = true
  | [], _ => rfl
  | a :: r, h => by simp [PyData.canLayAll0, PyData.canLay0, canLay_strs r fun s m => h s (List.mem_cons_of_mem _ m), h a List.mem_cons_self]
theorem depth_strs : ∀ ns : List (List Nat), PyData.depthAll (ns.map sD) = 0
  | [] => rfl
  | _ :: r => by simp [PyData.depthAll, PyData.depth, depth_strs r]
theorem shaped_strs (ns : List (List Nat)) (h : ∀ s ∈ ns, PyData.strOk ⟨s.toArray⟩ = true) : SeqAt.shaped (.list (ns.map sD)) = true := by
  simp [SeqAt.shaped, PyData.canLay0, PyData.depth, canLay_strs ns h, depth_strs]
theorem sameAll_strs : ∀ ns ms : List (List Nat), PySem.Spec.sameAll (ns.map sD) (ms.map sD) = decide (ns = ms)
  | [], [] => by simp [PySem.Spec.sameAll]
  | [], _ :: _ => by simp [PySem.Spec.sameAll]
  | _ :: _, [] => by simp [PySem.Spec.sameAll]
  | a :: r, b :: t => by
    simp only [List.map_cons, PySem.Spec.sameAll, PySem.Spec.same, sameAll_strs r t]
    have e : ((⟨a.toArray⟩ : Str) == ⟨b.toArray⟩) = decide (a = b) := by
      by_cases h : a = b
      · subst h; simp
      · rw [decide_eq_false h]
        simpa using h
    rw [e]
    by_cases h : a = b <;> by_cases h' : r = t <;> simp [h, h']
theorem carried_strs : ∀ {vs : List Value} {ns : List (List Nat)}, RepL O h vs (ns.map .str) → CarriedAll vs (ns.map sD)
  | [], [], _ => .nil
  | v :: vs, n :: ns, r => by
    rw [List.map_cons] at r
    cases r with | cons a b =>
    cases a
    exact .cons (.str _ _) (carried_strs b)
theorem CMP.neStrs {a b : List (List Nat)} (oa : ∀ s ∈ a, PyData.strOk ⟨s.toArray⟩ = true) (ob : ∀ s ∈ b, PyData.strOk ⟨s.toArray⟩ = true) : CMP c (k + 3) .NotEq (.list (a.map .str)) (.list (b.map .str)) (!decide (a = b)) := by
  refine .mk ?_
  intro A s Q E O vl vr ao T x y h
  cases x with | list hl ho rl =>
  cases y with | list hl2 ho2 rl2 =>
  exact ne_dataH_same (reads_newData hl (carried_strs rl)) (reads_newData hl2 (carried_strs rl2)) (shaped_strs _ oa) (shaped_strs _ ob) (by have := ao.units; omega) (SeqAt.noMix_of_shape (.list .str) rfl _ _ (list_map_has fun _ => rfl) (list_map_has fun _ => rfl))
    (by rw [show PySem.Spec.same (.list (a.map sD)) (.list (b.map sD)) = decide (a = b) by simp only [PySem.Spec.same]; exact sameAll_strs a b]; exact h)
theorem CMP.neInt {a b : Int} : CMP c k .NotEq (.int a) (.int b) (a != b) := by
  refine .mk ?_
  intro A s Q E O vl vr ao T x y h
  cases x; cases y
  exact ne_int h
theorem CMP.isBool {a b : Bool} : CMP c k .Is (.bool a) (.bool b) (a == b) := by
  refine .mk ?_
  intro A s Q E O vl vr ao T x y h
  cases x; cases y
  exact is_bool h
theorem CMP.eqBool {a b : Bool} : CMP c k .Eq (.bool a) (.bool b) (a == b) := by
  refine .mk ?_
  intro A s Q E O vl vr ao T x y h
  cases x; cases y
  exact eq_bool h
theorem CALL.int {i : Int} : CALL c k (.type "int") [.int i] (.int i) := by
  refine .mk ?_
  intro A s Q E O vs ao T ob r h
  cases r with | cons r1 r2 =>
  cases r2
  cases r1
  exact call_int_int (h _ s.heap s.toks Kp.refl (.int ..))
/-- list(x), a new list -/
theorem EVnew.listOf {f : Str} {p pos : Pos} {e : Expr} {ds : List D} (he : EV c k env O ρ e (.list ds)) (hz : ds.length ≤ 16777216) (hm : c.mg f = none) (hb : c.mb f = some (.type "list")) (hx : env.kindOf f = some .globalImplicit)
    (hd : (f == ("__debug__" : Str)) = false := by decide +kernel)
    (hs : starEach [e] env = (false, eval e env) :: starEach [] env := by rfl) (hpl : (backTo pos (starEach [e] env)).any (·.1) = false := by rfl)
    (hc : eval (.Call (.Name f p) [e] [] pos) env = (do callWith pos (← eval (.Name f p) env) [] (backTo pos (starEach [e] env)) (backToKw pos (keywordEach [] env))) := by rfl) :
    EVnew c k env O ρ (.Call (.Name f p) [e] [] pos) ds := by
  refine .mk ?_
  intro A s Q E ao T F h
  refine Call_ (EV.builtinName T F hx hm hb ?_ hd) hc
  refine PyProof.Rows.callWith_type hpl (wpAny_grows (args_of (EVs.cons he EVs.nil hs) hs ao T F fun vs h1 t1 k1 r1 hz1 => ?_))
  cases r1 with | cons r1 r2 =>
  cases r2
  cases r1 with | list hl ho rl =>
  obtain ⟨o, ho, hc, n, hd⟩ := hl
  refine call_list_seq _ (.inl rfl) ho hc hd (fun h' c' hk hD => ?_) (by rw [sizeLine_eq]; simpa [rl.length] using hz)
  refine h _ _ h' t1 (k1.trans hk) ?_ ⟨_, c', hD, rfl, rfl, rfl⟩ (rl.kp hk)
  exact hz1
theorem replicate_str (n : Nat) : ∀ (m : Nat) (acc : Array Nat), (List.replicate m (#[n] : Array Nat)).foldl (· ++ ·) acc = acc ++ (List.replicate m n).toArray
  | 0, acc => by simp
  | m + 1, acc => by
    rw [List.replicate_succ, List.foldl_cons, replicate_str n m, List.replicate_succ]
    apply Array.toList_inj.mp
    simp
theorem EV.mul_char {l r : Expr} {p : Pos} {x : Nat} {n : Nat} (hl : EV c k env O ρ l (.str [x])) (hr : EV c k env O ρ r (.int n)) (hn : n ≤ 16777216) : EV c k env O ρ (.BinOp l .Mult r p) (.str (List.replicate n x)) :=
  EV.bin hl hr fun A s Q E vl vr _ _ _ x' y h => by
    cases x'; cases y
    have e1 : (decide ((n : Int) < -(2 ^ 63 : Int)) || decide ((n : Int) ≥ 2 ^ 63)) = false := by
      rw [decide_eq_false (by omega), decide_eq_false (by omega)]; rfl
    refine P.mul_str e1 (fun h1 h2 => ?_) (fun h1 h2 => ?_) ?_
    · show ¬ ((1 : Int) > (2 ^ 63 - 1) / n)
      have h1 : 1 ≤ n := by omega
      have : 1 ≤ ((2 : Int) ^ 63 - 1) / n := by
        rw [Int.le_ediv_iff_mul_le (by omega)]; omega
      omega
    · show Builtin.Str.tooLong (1 * ((n : Int)).toNat) = false
      unfold Builtin.Str.tooLong
      rw [sizeLine_eq]
      simp; omega
    · split
      · have : n = 0 := by omega
        subst this
        refine ⟨by decide, ?_⟩
        exact h _ s.heap _ Kp.refl (.str [] _)
      · rename_i q
        split
        · rename_i q2
          have : n = 1 := by
            have q2 : ((n : Int) == 1 || false) = true := q2
            have : (n : Int) = 1 := by simpa using q2
            omega
          subst this
          exact h _ s.heap s.toks Kp.refl (.str [x] _)
        · refine ⟨?_, ?_⟩
          · show (Array.size _) ≤ sizeLine
            rw [show (⟨[x].toArray⟩ : Str).cps = #[x] from rfl, replicate_str, sizeLine_eq]
            simp; omega
          · rw [show (⟨[x].toArray⟩ : Str).cps = #[x] from rfl, replicate_str]
            simp only [Int.toNat_natCast, Array.empty_append]
            exact h _ s.heap _ Kp.refl (.str (List.replicate n x) _)
end
end Mine
end
section -- W18
open PySem PySem.W PyProof.Rows PySem.Calls
set_option Elab.async false
set_option linter.all false
set_option maxRecDepth 100000
namespace Mine
section
variable {c : Cx} {k : Nat} {env : Env} {O₀ O : Addr → Prop} {ρ ρ₁ ρ₂ : List (Str × Ent)} {h₀ h h' h1 h2 h3 : Heap}
/-- e in a set of the text -/
theorem EV.inSet {l : Expr} {x : Str} {px p : Pos} {i : Int} {a : Addr} {S : Int → Bool} {n : Nat} (hl : EV c k env O ρ l (.int i)) (hx : env.kindOf x = some .globalImplicit) (hm : c.mg x = some (.ref a))
    (hS : ∀ h, Top c h → h.SetOf (intKind PySem.Challenge.pw_wj0045_01 c.w) a S n)
    (hd : (x == ("__debug__" : Str)) = false := by decide +kernel) (hmk : behindInMarks .In (.Name x px) = false := by rfl) :
    EV c k env O ρ (.Compare l [.In] [.Name x px] p) (.bool (S i)) := .mk fun A s Q E ao T F h =>
  wpAny_Compare1 (hl.run A s _ E ao T F fun vl h1 t1 k1 r1 => by
    cases r1
    refine EV.globalName (T.kp k1) (F.kp k1) hx hm ?_ hd
    exact wpAny_inSet_of (intKind_is _ _ _ _) rfl (hS _ (T.kp k1)) (h _ h1 _ k1 (.bool _))) hmk
end
end Mine
end
section -- W19
open PySem PySem.W PyProof.Rows PySem.Calls
set_option Elab.async false
set_option linter.all false
set_option maxRecDepth 100000
namespace Mine
section
variable {c : Cx} {k : Nat} {env : Env} {O₀ O : Addr → Prop} {ρ ρ₁ ρ₂ : List (Str × Ent)} {h₀ h h' h1 h2 h3 : Heap}
theorem setV_hit {x : Str} {e f : Ent} {r : List (Str × Ent)} : setV ((x, f) :: r) x e = (x, e) :: r := by simp [setV]
theorem setV_miss {x y : Str} {e f : Ent} {r : List (Str × Ent)} (h : y ≠ x) : setV ((y, f) :: r) x e = (y, f) :: setV r x e := by simp [setV, h]
theorem setV_nil {x : Str} {e : Ent} : setV [] x e = [(x, e)] := rfl
theorem XS.cast {body : List Stmt} {r : Out} (e : ρ = ρ₁) (h : XS c k env O₀ ρ₁ body r) : XS c k env O₀ ρ body r := e ▸ h
theorem XS.assign {x : Str} {p pos : Pos} {e : Expr} {d : D} {rest : List Stmt} {r : Out} (he : EV c k env (OwnO O₀ ρ) ρ e d) (hx : StoreOk env x) (hr : XS c k env O₀ (setV ρ x (.val d)) rest r)
    (hs : swapsWith e (some (.Name x p)) pos.line env = pure false := by rfl) : XS c k env O₀ ρ (.Assign [.Name x p] e pos :: rest) r := XS.seq (XT.assign he hx hs) hr
theorem lookup_relabel_gi {env : Env} {x : Str} : ∀ {names : List (Str × NameKind)}, names.lookup x = some .globalImplicit →
    (names.map fun (n, k) => if (k == NameKind.free && env.scope.kind == .function && env.kindOf n == some .cell) then (n, NameKind.cell) else (n, k)).lookup x = some .globalImplicit
  | [], h => by simp at h
  | (n, kd) :: r, h => by
    rw [List.map_cons]
    by_cases q : (x == n) = true
    · have e : x = n := by simpa using q
      subst e
      rw [List.lookup_cons, q] at h
      cases h
      simp
    · simp only [Bool.not_eq_true] at q
      rw [List.lookup_cons, q] at h
      have := lookup_relabel_gi (env := env) h
      dsimp only
      split <;> (rw [List.lookup_cons, q]; exact this)
theorem comp_gi {scope : Scope} {cl : List (Str × Addr)} {C : Addr} {x : Str} (h : scope.names.lookup x = some .globalImplicit) : (compEnvC scope cl C env).kindOf x = some .globalImplicit := lookup_relabel_gi h
theorem envC_kind {name : Str} {scope : Scope} {L a : Addr} {cd : Value} {x : Str} {kd : NameKind} (h : scope.names.lookup x = some kd) : (envOfC name scope L a cd).kindOf x = some kd := h
theorem envC_local {name : Str} {scope : Scope} {L a : Addr} {cd : Value} {x : Str} (h : scope.names.lookup x = some .local) : StoreOk (envOfC name scope L a cd) x := .inl h
theorem envC_cell {name : Str} {scope : Scope} {L a : Addr} {cd : Value} {x : Str} (h : scope.names.lookup x = some .cell) : StoreOk (envOfC name scope L a cd) x := .inr ⟨h, cells_of h⟩
theorem own_sub {ρ' ρ : List (Str × Ent)} (h : ρ'.Sublist ρ) : (ownAddrs ρ').Sublist (ownAddrs ρ) := h.filterMap _
theorem EntIs.sub {O O' : Addr → Prop} {v : Value} {e : Ent} (x : EntIs O h v e) (hs : ∀ a, O' a → O a) (ha : ∀ a, e.addr = some a → O' a) : EntIs O' h v e :=
  x.upd (fun _ _ e _ _ => e) (fun b _ _ z => hs b z) ha
theorem FS.drop {ρ' : List (Str × Ent)} (F : FS env h₀ O₀ ρ h) (hs : ρ'.Sublist ρ) : FS env h₀ O₀ ρ' h := by
  have os := own_sub hs
  refine ⟨⟨F.fr.kind, F.fr.glob, F.fr.blt, fun x e hm => ?_, fun a ha => F.fr.ob a (ha.imp id fun z => os.subset z)⟩, F.keep, F.ns, F.above, F.cellAb, F.cellAp, fun a ha => F.ownAb a (os.subset ha), F.ownNd.sublist os, F.nd.sublist (hs.map _), F.o0⟩
  obtain ⟨v, hv, he⟩ := F.fr.vars x e (hs.subset hm)
  exact ⟨v, hv, he.sub (fun a z => z.imp id fun z => os.subset z) fun a ha => .inr (addr_own hm ha)⟩
theorem XS.drop {body : List Stmt} {ρ' : List (Str × Ent)} (h : XS c k env O₀ ρ body (.next ρ₁)) (hs : ρ'.Sublist ρ₁) : XS c k env O₀ ρ body (.next ρ') := by
  refine .mk ?_
  intro A s Q E h₀ a T F hq
  refine h.run A s Q E h₀ a T F fun fl h' tk o => hq fl h' tk ?_
  obtain ⟨o1, o2, o3⟩ := o
  exact ⟨o1, o2.drop hs, ⟨o3.keep, fun b hb => o3.own b ((own_sub hs).subset hb), o3.size⟩⟩
theorem XT.drop {st : Stmt} {ρ' : List (Str × Ent)} (h : XT c k env O₀ ρ st (.next ρ₁)) (hs : ρ'.Sublist ρ₁) : XT c k env O₀ ρ st (.next ρ') := by
  refine .mk ?_
  intro A s Q E h₀ a T F hq
  refine h.run A s Q E h₀ a T F fun fl h' tk o => hq fl h' tk ?_
  obtain ⟨o1, o2, o3⟩ := o
  exact ⟨o1, o2.drop hs, ⟨o3.keep, fun b hb => o3.own b ((own_sub hs).subset hb), o3.size⟩⟩
theorem XS.nilDrop {ρ' : List (Str × Ent)} (hs : ρ'.Sublist ρ) : XS c k env O₀ ρ [] (.next ρ') := XS.nil.drop hs
theorem frz_val {x : Str} {d : D} {r : List (Str × Ent)} : Mine.freeze ((x, .val d) :: r) = (x, .val d) :: Mine.freeze r := rfl
theorem frz_own {x : Str} {a : Addr} {ds : List D} {r : List (Str × Ent)} : Mine.freeze ((x, .own a ds) :: r) = (x, .val (.list ds)) :: Mine.freeze r := rfl
theorem frz_app {x : Str} {a : Addr} {ds : List D} {r : List (Str × Ent)} : Mine.freeze ((x, .app a ds) :: r) = (x, .val (.list ds)) :: Mine.freeze r := rfl
theorem frz_nil : Mine.freeze [] = [] := rfl
theorem XS.ret {e : Expr} {pos : Pos} {d : D} {rest : List Stmt} {ρf : List (Str × Ent)} (hf : Mine.freeze ρ = ρf) (he : EV c k env O₀ ρf e d) : XS c k env O₀ ρ (.Return (some e) pos :: rest) (.ret d) := XS.stop (XT.ret (hf ▸ he))
theorem XS.frz {body : List Stmt} {r : Out} (hf : Mine.freeze ρ = ρ₁) (h : XS c k env O₀ ρ₁ body r) : XS c k env O₀ ρ body r := XS.freeze (hf ▸ h)
end
end Mine
end
section -- W20
open PySem PySem.W PyProof.Rows PySem.Calls
set_option Elab.async false
set_option linter.all false
set_option maxRecDepth 100000
namespace Mine
section
variable {c : Cx} {k : Nat} {env : Env} {O₀ O : Addr → Prop} {ρ ρ₁ ρ₂ : List (Str × Ent)} {h₀ h h' h1 h2 h3 : Heap}
theorem EV.callF {f : Str} {p pos : Pos} {e : Expr} {es : List Expr} {ds : List D} {d : D} {a : Addr} {name : Str} {xs : List Str} {body : List Stmt} {scope : Scope} (X : Fn c a name xs body scope) (hm : c.mg f = some (.ref a))
    (hf : CALL c k (.ref a) ds d) (hargs : EVs c k env O ρ pos (e :: es) ds) (hx : env.kindOf f = some .globalImplicit)
    (hd : (f == ("__debug__" : Str)) = false := by decide +kernel)
    (hs : starEach (e :: es) env = (false, eval e env) :: starEach es env := by rfl)
    (he : eval (.Call (.Name f p) (e :: es) [] pos) env = (do callWith pos (← eval (.Name f p) env) [] (backTo pos (starEach (e :: es) env)) (backToKw pos (keywordEach [] env))) := by rfl) :
    EV c k env O ρ (.Call (.Name f p) (e :: es) [] pos) d := by
  obtain ⟨o, params, pm, cd, doc, hK, hdt, _⟩ := X.def_
  exact EV.call hargs hf hm hK hdt hx hd hs he
theorem EV.callBi {f : Str} {p pos : Pos} {e : Expr} {es : List Expr} {ds : List D} {d : D} {id : String} (hb : c.mg f = none ∧ c.mb f = some (.builtin id))
    (hf : CALL c k (.builtin id) ds d) (hargs : EVs c k env O ρ pos (e :: es) ds) (hx : env.kindOf f = some .globalImplicit)
    (hd : (f == ("__debug__" : Str)) = false := by decide +kernel)
    (hs : starEach (e :: es) env = (false, eval e env) :: starEach es env := by rfl) (hpl : (backTo pos (starEach (e :: es) env)).any (·.1) = false := by rfl)
    (he : eval (.Call (.Name f p) (e :: es) [] pos) env = (do callWith pos (← eval (.Name f p) env) [] (backTo pos (starEach (e :: es) env)) (backToKw pos (keywordEach [] env))) := by rfl) :
    EV c k env O ρ (.Call (.Name f p) (e :: es) [] pos) d := EV.callB hargs hf hb.1 hb.2 hx hd hs hpl he
theorem EV.callTy {f : Str} {p pos : Pos} {e : Expr} {es : List Expr} {ds : List D} {d : D} {id : String} (hb : c.mg f = none ∧ c.mb f = some (.type id))
    (hf : CALL c k (.type id) ds d) (hargs : EVs c k env O ρ pos (e :: es) ds) (hx : env.kindOf f = some .globalImplicit)
    (hd : (f == ("__debug__" : Str)) = false := by decide +kernel)
    (hs : starEach (e :: es) env = (false, eval e env) :: starEach es env := by rfl) (hpl : (backTo pos (starEach (e :: es) env)).any (·.1) = false := by rfl)
    (he : eval (.Call (.Name f p) (e :: es) [] pos) env = (do callWith pos (← eval (.Name f p) env) [] (backTo pos (starEach (e :: es) env)) (backToKw pos (keywordEach [] env))) := by rfl) :
    EV c k env O ρ (.Call (.Name f p) (e :: es) [] pos) d := EV.callT hargs hf hb.1 hb.2 hx hd hs hpl he
theorem EV.callG {f : Str} {p pos : Pos} {e : Expr} {es : List Expr} {ds : List D} {d : D} {a : Addr} (X : ∃ o fd, c.K.lookup a = some o ∧ o.data = .func fd) (hm : c.mg f = some (.ref a))
    (hf : CALL c k (.ref a) ds d) (hargs : EVs c k env O ρ pos (e :: es) ds) (hx : env.kindOf f = some .globalImplicit)
    (hd : (f == ("__debug__" : Str)) = false := by decide +kernel)
    (hs : starEach (e :: es) env = (false, eval e env) :: starEach es env := by rfl)
    (he : eval (.Call (.Name f p) (e :: es) [] pos) env = (do callWith pos (← eval (.Name f p) env) [] (backTo pos (starEach (e :: es) env)) (backToKw pos (keywordEach [] env))) := by rfl) :
    EV c k env O ρ (.Call (.Name f p) (e :: es) [] pos) d := by
  obtain ⟨o, fd, hK, hdt⟩ := X
  exact EV.call hargs hf hm hK hdt hx hd hs he
theorem EB.int {O : Addr → Prop} {e : Expr} {i : Int} (he : EV c k env O ρ e (.int i)) (ht : isTrue e env (eval e env) = (do let v ← eval e env; standAt e.pos; holding [v] (truthy v)) := by rfl) : EB c k env O ρ e (i != 0) :=
  .mk fun A s Q E a T F h => wpAny_isTrue_value (he.run A s _ E a T F fun v h1 t1 k1 r1 => by cases r1; exact PyProof.Rows.truthy_int (h h1 t1 k1)) ht
theorem noPy {x y : Int} (h : y.natAbs.log2 < 9000) : Builtin.divisionGoesByPylong x y = false := by
  unfold Builtin.divisionGoesByPylong
  dsimp only
  have : ¬ ((if (y == 0) = true then 0 else y.natAbs.log2 / 30 + 1) > 300) := by
    split
    · omega
    · omega
  rw [decide_eq_false this]
  rfl
theorem CALL.divmod' {a b : Int} (ha : 0 ≤ a) (hb : 0 < b) (hl : b.natAbs.log2 < 9000) : CALL c k (.builtin "divmod") [.int a, .int b] (.tup [.int (a / b), .int (a % b)]) := by
  have := CALL.divmod (c := c) (k := k) (a := a) (b := b) (by omega) (noPy hl)
  rw [Int.fdiv_eq_ediv_of_nonneg a (by omega), Int.fmod_eq_emod_of_nonneg a (by omega)] at this
  exact this
theorem EV.div' {l r : Expr} {p : Pos} {a b : Int} (hl : EV c k env O ρ l (.int a)) (hr : EV c k env O ρ r (.int b)) (hb : 0 < b) (hz : b.natAbs.log2 < 9000) : EV c k env O ρ (.BinOp l .FloorDiv r p) (.int (a / b)) := by
  have := EV.div_int (p := p) hl hr (by omega) (noPy hz)
  rwa [Int.fdiv_eq_ediv_of_nonneg a (by omega)] at this
theorem EV.mod' {l r : Expr} {p : Pos} {a b : Int} (hl : EV c k env O ρ l (.int a)) (hr : EV c k env O ρ r (.int b)) (hb : 0 < b) : EV c k env O ρ (.BinOp l .Mod r p) (.int (a % b)) := by
  have := EV.mod_int (p := p) hl hr (by omega)
  rwa [Int.fmod_eq_emod_of_nonneg a (by omega)] at this
end
/-- the facts of the program -/
structure PG (c : Cx) : Prop where
  apF : Fn c 51 "Int2AP" ["num"] (bodyAt 4) (scopeAt 4)
  gtF : Fn c 58 "gt" ["a", "b"] (bodyAt 6) (scopeAt 6)
  countF : Fn c 65 "countOf" ["a", "b"] (bodyAt 7) (scopeAt 7)
  indexF : Fn c 72 "indexOf" ["a", "b"] (bodyAt 8) (scopeAt 8)
  setF : Fn c 79 "setitem" ["a", "b", "c"] (bodyAt 9) (scopeAt 9)
  quoteF : Fn c 96 "quotedata" ["data"] (bodyAt 14) (scopeAt 14)
  in1F : Fn c 114 "in_table_b1" ["code"] (bodyAt 17) (scopeAt 17)
  map3F : Fn c 160 "map_table_b3" ["code"] (bodyAt 19) (scopeAt 19)
  cellsF : Fn c 165 "_law_cells" ["script"] (bodyAt 21) (scopeAt 21)
  secondF : Fn c 172 "_law_second" ["word", "cells"] (bodyAt 22) (scopeAt 22)
  heardF : Fn c 179 "_law_heard" ["word", "cells"] (bodyAt 23) (scopeAt 23)
  mailF : Fn c 186 "_law_mail" ["word"] (bodyAt 24) (scopeAt 24)
  textF : Fn c 193 "_law_text" ["word", "cells"] (bodyAt 25) (scopeAt 25)
  namesF : Fn c 200 "_law_names" ["text", "cells"] (bodyAt 26) (scopeAt 26)
  settledF : Fn c 205 "_law_settled" ["word", "cells"] (bodyAt 27) (scopeAt 27)
  grownF : Fn c 210 "_law_grown" ["drawn", "cells"] (bodyAt 28) (scopeAt 28)
  lawF : Fn c 215 "law" ["script"] (bodyAt 29) (scopeAt 29)
  depthK : ∃ o fd, c.K.lookup 44 = some o ∧ o.data = .func fd
  gap : c.mg "Int2AP" = some (.ref 51)
  ggt : c.mg "gt" = some (.ref 58)
  gcount : c.mg "countOf" = some (.ref 65)
  gindex : c.mg "indexOf" = some (.ref 72)
  gset : c.mg "setitem" = some (.ref 79)
  gquote : c.mg "quotedata" = some (.ref 96)
  gin1 : c.mg "in_table_b1" = some (.ref 114)
  gmap3 : c.mg "map_table_b3" = some (.ref 160)
  gdepth : c.mg "_paren_depth" = some (.ref 44)
  gcells : c.mg "_law_cells" = some (.ref 165)
  gsecond : c.mg "_law_second" = some (.ref 172)
  gheard : c.mg "_law_heard" = some (.ref 179)
  gmail : c.mg "_law_mail" = some (.ref 186)
  gtext : c.mg "_law_text" = some (.ref 193)
  gnames : c.mg "_law_names" = some (.ref 200)
  gsettled : c.mg "_law_settled" = some (.ref 205)
  ggrown : c.mg "_law_grown" = some (.ref 210)
  gb1 : c.mg "b1_set" = some (.ref 104)
  gb3 : c.mg "b3_exceptions" = some (.ref 115)
  bdivmod : c.mg "divmod" = none ∧ c.mb "divmod" = some (.builtin "divmod")
  bsum : c.mg "sum" = none ∧ c.mb "sum" = some (.builtin "sum")
  bchr : c.mg "chr" = none ∧ c.mb "chr" = some (.builtin "chr")
  bord : c.mg "ord" = none ∧ c.mb "ord" = some (.builtin "ord")
  babs : c.mg "abs" = none ∧ c.mb "abs" = some (.builtin "abs")
  blen : c.mg "len" = none ∧ c.mb "len" = some (.builtin "len")
  brange : c.mg "range" = none ∧ c.mb "range" = some (.type "range")
  bint : c.mg "int" = none ∧ c.mb "int" = some (.type "int")
  blist : c.mg "list" = none ∧ c.mb "list" = some (.type "list")
  benum : c.mg "enumerate" = none ∧ c.mb "enumerate" = some (.type "enumerate")
end Mine
end
section -- W21
open PySem PySem.W PyProof.Rows PySem.Calls
set_option Elab.async false
set_option linter.all false
set_option maxRecDepth 100000
namespace Mine
section
variable {c : Cx} {k : Nat} {env : Env} {O₀ O : Addr → Prop} {ρ ρ₁ ρ₂ ρ' : List (Str × Ent)} {h₀ h h' h1 h2 h3 : Heap}
theorem CompOk.mk' {scope : Scope} {x : Str} {ns : List Str} (hns : ρ'.map (·.1) = ns) (hs : ρ'.Sublist ρ)
    (h1 : scope.kind = .function ∧ (∀ y ∈ scope.names, y.2 ≠ .cell) ∧ (∀ y ∈ scope.names, y.2 = .local → scope.names.lookup y.1 = some .local) ∧ scope.names.lookup x = some .local ∧
      (∀ y ∈ ns, scope.names.lookup y = some .free) ∧ ∀ y ∈ scope.names, y.2 = .free → y.1 ∈ ns)
    (hk : ∀ x ∈ ns, env.kindOf x = some .cell) : CompOk env scope x ρ ρ' := by
  obtain ⟨a, b, d, e, f, g⟩ := h1
  refine ⟨a, b, d, e, fun p hp => ?_, fun y hy hf => ?_⟩
  · have hm : p.1 ∈ ns := hns ▸ List.mem_map.mpr ⟨p, hp, rfl⟩
    exact ⟨hs.subset hp, f _ hm, hk _ hm⟩
  · have := g y hy hf
    rw [← hns] at this
    obtain ⟨p, hp, q⟩ := List.mem_map.mp this
    exact ⟨p.2, q ▸ hp⟩
theorem compC_cell {scope : Scope} {cl : List (Str × Addr)} {C : Addr} {x : Str} (hk : env.scope.kind = .function) (hx : env.kindOf x = some .cell) (h : scope.names.lookup x = some .free) : (compEnvC scope cl C env).kindOf x = some .cell := relabel_free hk hx h
noncomputable def pickA {α : Type} (ds : List α) (lo hi st : Option Int) : List α :=
  (sliceRange (sliceBounds lo hi st ds.length).1 (sliceBounds lo hi st ds.length).2.1 (sliceBounds lo hi st ds.length).2.2).filterMap (ds[·]?)
theorem pickD_map {α : Type} (f : α → D) (l : List α) (lo hi st : Option Int) : pickD (l.map f) lo hi st = (pickA l lo hi st).map f := by
  unfold pickD pickA
  rw [List.length_map, List.map_filterMap]
  congr 1
  funext i
  rw [List.getElem?_map]
noncomputable def D.i : D → Int
  | .int z => z
  | _ => 0
theorem rangeL_mem {n : Nat} {d : D} (h : d ∈ rangeL 0 n 1) : ∃ i : Nat, i < n ∧ d = .int i := by
  unfold rangeL at h
  obtain ⟨i, hi, rfl⟩ := List.mem_map.mp h
  refine ⟨i, ?_, by simp⟩
  have := List.mem_range.mp hi
  unfold Builtin.Range.rangeSize at this
  simp at this
  omega
theorem rangeL_is (n : Nat) : rangeL 0 n 1 = (List.range n).map fun (i : Nat) => .int (i : Int) := by
  unfold rangeL
  have e : (Builtin.Range.rangeSize 0 n 1).toNat = n := by
    unfold Builtin.Range.rangeSize
    simp
    omega
  rw [e]
  congr 1
  funext i
  simp
theorem size_le (n : Nat) : 0 ≤ Builtin.Range.rangeSize 0 n 1 := by
  unfold Builtin.Range.rangeSize
  simp
  omega
theorem map_filter_true {α β : Type} (l : List α) (f : α → β) : (l.filter fun _ => true).map f = l.map f := by rw [List.filter_eq_self.mpr fun _ _ => rfl]
theorem setV_own_nodup {x : Str} {a : Addr} {ds : List D} (ha : a ∉ ownAddrs ρ) (hn : (ownAddrs ρ).Nodup) : (ownAddrs (setV ρ x (.own a ds))).Nodup := by
  have e : ∀ ρ : List (Str × Ent), ownAddrs (setV ρ x (.own a ds)) = ownAddrs (setV ρ x (.app a ds)) := by
    intro ρ
    induction ρ with
    | nil => rfl
    | cons p r ih =>
      obtain ⟨z, g⟩ := p
      unfold setV
      split
      · rfl
      · unfold ownAddrs at ih ⊢
        rw [List.filterMap_cons, List.filterMap_cons, ih]
  rw [e]
  exact setV_app_nodup ha hn
theorem XS.assignOwn {x : Str} {p pos : Pos} {e : Expr} {ds : List D} {rest : List Stmt} {r : Out} (he : EVnew c k env (OwnO O₀ ρ) ρ e ds) (hx : StoreOk env x) (hf : ∀ d ∈ ds, d.flat = true)
    (hr : ∀ a, XS c k env O₀ (setV ρ x (.own a ds)) rest r)
    (hs : swapsWith e (some (.Name x p)) pos.line env = pure false := by rfl) : XS c k env O₀ ρ (.Assign [.Name x p] e pos :: rest) r := by
  refine .mk ?_
  intro A s Q E h₀ ao T F h
  refine wpAny_execs_cons (wpAny_Assign_Name (wpAny_grows (he.run A s _ E ao (F.top T) F.fr fun a vs h1 t1 k1 hn hp r1 hz => ?_)) hs)
  refine F.storeS (e := .own a ds) (s := { s with heap := h1, toks := t1 }) k1 hz hx ⟨rfl, hn, hf, vs, PlainL.isList' hp, r1⟩ (setV_own_nodup (fun q => ?_) F.ownNd) fun h' tk F' S' => ?_
  · obtain ⟨o, e2, _⟩ := own_alive F q
    exact absurd (Heap.lt_size e2) (Nat.not_lt.mpr hn)
  · exact (hr a).run A { s with heap := h', toks := tk } Q E h₀ ao T F' fun fl h'' tk' o' => h fl h'' tk' (OutIs.trans S' o')
end
end Mine
end
section -- W22
open PySem PySem.W PyProof.Rows PySem.Calls
set_option Elab.async false
set_option linter.all false
set_option maxRecDepth 100000
namespace Mine
section
variable {c : Cx} {k : Nat} {env : Env} {O₀ O : Addr → Prop} {ρ ρ₁ ρ₂ ρ' : List (Str × Ent)} {h₀ h h' h1 h2 h3 : Heap}
/-- the frame of a comprehension of two clauses -/
structure CS (env : Env) (scope : Scope) (O : Addr → Prop) (ρ' : List (Str × Ent)) (hB : Heap) (C Da : Addr) (ls : List (Str × D)) (ds : List D) (h : Heap) : Prop where
  kp : Kp hB h
  ns : ∃ m, h.Ns C m ∧ ∀ p ∈ ls, ∃ v, m p.1 = some v ∧ Sc v p.2
  acc : ∃ ys : List Value, h.PlainList Da ys.toArray ∧ RepL (fun _ => False) h ys ds
  fl : ∀ d ∈ ds, d.flat = true
noncomputable abbrev lsE (ls : List (Str × D)) : List (Str × Ent) := ls.map fun p => (p.1, .val p.2)
theorem CS.fr {scope : Scope} {x : Str} {hB : Heap} {C Da : Addr} {ls : List (Str × D)} {ds : List D} (S : CS env scope O ρ' hB C Da ls ds h) (X : CompOk env scope x ρ ρ') (F : FR env O ρ hB)
    (hl : ∀ p ∈ ls, scope.names.lookup p.1 = some .local) : FR (compEnvC scope (clOf env scope.names []) C env) O (lsE ls ++ ρ') h where
  kind := X.kind
  glob := F.glob
  blt := F.blt
  ob := (F.kp S.kp).ob
  vars := fun y e hm => by
    obtain ⟨m, hn, hv⟩ := S.ns
    rcases List.mem_append.mp hm with q | hm
    · obtain ⟨p, hp, e2⟩ := List.mem_map.mp q
      cases e2
      obtain ⟨v, hv1, hv2⟩ := hv p hp
      exact ⟨v, .inl ⟨lookup_relabel_local (hl p hp), m, hn, hv1⟩, hv2.rep O h⟩
    · obtain ⟨h1, h2, h3⟩ := X.sub _ hm
      obtain ⟨v', hv', he'⟩ := F.vars _ _ h1
      rcases hv' with ⟨hl, _⟩ | ⟨hl, a, ha, hc⟩
      · rw [h3] at hl; cases hl
      · refine ⟨v', .inr ⟨relabel_free F.kind h3 h2, a, clOf_acc env scope.names [] y a ha (fun b hb => by simp at hb) (.inl ?_), hc.keeps S.kp⟩, he'.kp S.kp⟩
        exact List.any_eq_true.mpr ⟨(y, .free), mem_of_lookup h2, by simp⟩
theorem inner_loop {A : Around} {s : Shared} {elt i1 i2 : Expr} {x x1 x2 : Str} {p1 p2 : Pos} {scope : Scope} {pos : Pos} {C Da I : Addr} {fp wr : List Addr} {P : Nat → Value → Prop} {St : Nat → Heap → Prop} {R : Result → Shared → Prop}
    {ds2 ds0 : List D} {ls : List (Str × D)} {h : Heap} {tk : Nat} (f : D → D) (ao : AOk k A) (T : Top c s.heap) (X : CompOk env scope x ρ ρ') (F : FR env O ρ s.heap)
    (W : Walks PySem.Challenge.pw_wj0045_01 c.w A I fp wr ds2.length P St) (hP : ∀ j v, P j v → ∃ d, ds2[j]? = some d ∧ Sc v d) (hC : C ∉ fp) (hD : Da ∉ fp) (hCD : Da ≠ C) (hCo : ∀ o, s.heap.get? C ≠ some o) (hDo : ∀ o, s.heap.get? Da ≠ some o)
    (hwr : ∀ b ∈ wr, ∀ o, s.heap.get? b ≠ some o) (hl : ∀ p ∈ ls, scope.names.lookup p.1 = some .local) (hx2 : scope.names.lookup x2 = some .local) (hne : ∀ p ∈ ls, p.1 ≠ x2) (hz : ds0.length + ds2.length ≤ 16777216)
    (he : ∀ O, ∀ d ∈ ds2, EV c k (compEnvC scope (clOf env scope.names []) C env) O ((x2, .val d) :: (lsE ls ++ ρ')) elt (f d)) (hfl : ∀ d ∈ ds2, (f d).flat = true)
    (S0 : CS env scope O ρ' s.heap C Da ls ds0 h) (st0 : St 0 h)
    (hR : ∀ h' tk', CS env scope O ρ' s.heap C Da ls (ds0 ++ ds2.map f) h' → (∀ b o, b ≠ C → b ≠ Da → b ∉ wr → h.get? b = some o → h'.get? b = some o) → R (.ok .next) { s with heap := h', toks := tk' }) :
    codeAny (MM c) A (.compLoop (.ListComp elt [⟨.Name x1 p1, i1, [], 0⟩, ⟨.Name x2 p2, i2, [], 0⟩] scope pos) 1 (.ref I) (.ref Da) (compEnvC scope (clOf env scope.names []) C env)) R { s with heap := h, toks := tk } := by
  refine codeAny_loop rfl (fun m s' => ∃ j h' tk', s' = { s with heap := h', toks := tk' } ∧ j ≤ ds2.length ∧ m = ds2.length + 1 - j ∧ CS env scope O ρ' s.heap C Da ls (ds0 ++ (ds2.take j).map f) h' ∧ St j h' ∧
      (∀ b o, b ≠ C → b ≠ Da → b ∉ wr → h.get? b = some o → h'.get? b = some o)) ?_ (ds2.length + 1) ⟨0, h, tk, rfl, Nat.zero_le _, rfl, by simpa using S0, st0, fun _ _ _ _ _ e => e⟩
  rintro m s' ⟨j, hj, tk', rfl, hjl, rfl, S, stj, hk⟩
  show wpAny _ A ((compTurn _ 1 (.ref I) (.ref Da) _).onRaise (fun x => do noteFrame x _; theTreesLotGoes x)) _ _ _
  refine wpAny_noted ?_
  unfold compTurn
  show wpAny _ _ (standAt _ >>= _) _ _ _
  refine wpAny_bind (wpAny_standAt ?_)
  have Cw : C ∉ wr := fun q => hC (W.sub _ q)
  have Dw : Da ∉ wr := fun q => hD (W.sub _ q)
  have fresh : ∀ {h1 h2 : Heap} {b : Addr}, Kp s.heap h1 → (∀ b' o, b' ≠ b → h1.get? b' = some o → h2.get? b' = some o) → (∀ o, s.heap.get? b ≠ some o) → Kp s.heap h2 := fun k1 k2 n b o e => k2 b o (by rintro rfl; exact n _ e) (k1 b o e)
  by_cases hlt : j < ds2.length
  · refine wpAny_bind (W.item j _ _ _ hlt stj fun v h1 tk1 hPv st1 hk1 => ?_)
    obtain ⟨d, hd, hsc⟩ := hP j v hPv
    have hdm : d ∈ ds2 := List.mem_of_getElem? hd
    obtain ⟨m0, hn0, hm0⟩ := S.ns
    obtain ⟨ys, hacc, hrep⟩ := S.acc
    have kp1 : Kp s.heap h1 := fun b o e => hk1 b o (fun q => hwr b q o e) (S.kp b o e)
    show wpAny _ _ (letOwnedTupleGo (.Name x2 p2) (.ref I) v >>= _) _ _ _
    refine wpAny_bind (wpAny_of_eq (show letOwnedTupleGo (.Name x2 p2) (.ref I) v = pure () from rfl) ?_)
    refine wpAny_bind (wpAny_assign_Name (wpAny_storeName_local (lookup_relabel_local hx2) (hn0.at' fun o e => hk1 _ o Cw e) (fun h2 hn2 hs2 => ?_) (by simp [compEnvC, relabel, X.kind])))
    show wpAny _ _ (forIn ([] : List Expr) true _ >>= _) _ _ _
    rw [List.forIn_nil]
    refine wpAny_bind (wpAny_pure ?_)
    show wpAny _ _ ((eval elt _ >>= fun y => call (.builtin "list.append") [.ref Da, y] >>= fun _ => pure ()) >>= fun _ => again _) _ _ _
    have kp2 : Kp s.heap h2 := fresh kp1 (fun b o n e => hs2.extBut b o n e) hCo
    have acc2 : h2.PlainList Da ys.toArray := hacc.at fun o e => hs2.extBut _ o hCD (hk1 _ o Dw e)
    have S2 : CS env scope O ρ' s.heap C Da ((x2, d) :: ls) (ds0 ++ (ds2.take j).map f) h2 := ⟨kp2, ⟨_, hn2, fun p hp => by
      rcases List.mem_cons.mp hp with rfl | hp
      · exact ⟨v, by simp, hsc⟩
      · obtain ⟨u, hu1, hu2⟩ := hm0 p hp
        exact ⟨u, by simp only [hne p hp, if_false]; exact hu1, hu2⟩⟩, ⟨ys, acc2, hrep.any S.fl⟩, S.fl⟩
    have F2 := S2.fr X F (fun p hp => by
      rcases List.mem_cons.mp hp with rfl | hp
      · exact hx2
      · exact hl p hp)
    refine wpAny_bind (wpAny_bind ((he O d hdm).run A _ _ _ ao (T.kp kp2) F2 fun y h3 t3 k3 r3 => ?_))
    have k3 : Kp h2 h3 := k3
    have r3 : Rep O h3 y (f d) := r3
    have hlen : ys.length ≤ 16777216 := by
      have := hrep.length
      simp at this
      omega
    refine wpAny_bind (wpAny_list_append_plain (hsz := by rw [sizeLine_eq]; simpa using hlen) (acc2.at fun o e => k3 _ o e) fun h4 hl4 hs4 => ?_)
    refine wpAny_pure (wpAny_pure ⟨rfl, ds2.length + 1 - (j + 1), by omega, j + 1, h4, t3, rfl, hlt, rfl, ?_, ?_, fun b o n1 n2 n3 e => hs4.extBut b o n2 (k3 _ o (hs2.extBut b o n1 (hk1 b o n3 (hk b o n1 n2 n3 e))))⟩)
    · have e1 : ds0 ++ (ds2.take (j + 1)).map f = (ds0 ++ (ds2.take j).map f) ++ [f d] := by rw [List.take_succ, hd]; simp
      rw [e1]
      have hfl' : ∀ d' ∈ (ds0 ++ (ds2.take j).map f) ++ [f d], d'.flat = true := fun d' hd' => by
        rcases List.mem_append.mp hd' with q | q
        · exact S.fl _ q
        · rw [List.mem_singleton.mp q]; exact hfl d hdm
      obtain ⟨m2, hn2', hm2⟩ := S2.ns
      refine ⟨fresh (kp2.trans k3) (fun b o n e => hs4.extBut b o n e) hDo, ⟨m2, (hn2'.keeps k3).sameBut hs4 (Ne.symm hCD), fun p hp => hm2 p (List.mem_cons_of_mem _ hp)⟩, ⟨ys ++ [y], by simpa using hl4, ?_⟩, hfl'⟩
      exact RepL.append (hrep.any S.fl) (.cons ((r3.sc (hfl d hdm)).rep _ _) .nil)
    · exact W.frame _ _ h4 st1 fun b hb o e => hs4.extBut b o (fun q => hD (q ▸ hb)) (k3 _ o (hs2.extBut b o (fun q => hC (by have q : b = C := q; exact q ▸ hb)) e))
  · have hin : j = ds2.length := by omega
    subst hin
    refine wpAny_bind (W.done _ _ _ stj fun h1 tk1 hk1 => ?_)
    refine wpAny_pure (hR h1 tk1 ?_ fun b o n1 n2 n3 e => hk1 b o n3 (hk b o n1 n2 n3 e))
    rw [List.take_length] at S
    obtain ⟨m0, hn0, hm0⟩ := S.ns
    obtain ⟨ys, hacc, hrep⟩ := S.acc
    exact ⟨fun b o e => hk1 b o (fun q => hwr b q o e) (S.kp b o e), ⟨m0, hn0.at' fun o e => hk1 _ o Cw e, hm0⟩, ⟨ys, hacc.at fun o e => hk1 _ o Dw e, hrep.any S.fl⟩, S.fl⟩
theorem CS.kpS {scope : Scope} {hB : Heap} {C Da : Addr} {ls : List (Str × D)} {ds : List D} (S : CS env scope O ρ' hB C Da ls ds h) (k : Kp h h') : CS env scope O ρ' hB C Da ls ds h' :=
  ⟨S.kp.trans k, let ⟨m, a, b⟩ := S.ns; ⟨m, a.keeps k, b⟩, let ⟨ys, a, b⟩ := S.acc; ⟨ys, a.at fun o e => k _ o e, b.kp k⟩, S.fl⟩
theorem CS.fr2 {scope : Scope} {x : Str} {hB : Heap} {C Da : Addr} {ls : List (Str × D)} {ds : List D} (S : CS env scope O ρ' hB C Da ls ds h) (X : CompOk env scope x ρ ρ') (F : FR env O ρ hB) (hDo : ∀ o, hB.get? Da ≠ some o)
    (hl : ∀ p ∈ ls, scope.names.lookup p.1 = some .local) : FR (compEnvC scope (clOf env scope.names []) C env) (fun a => O a ∨ a = Da) (lsE ls ++ ρ') h where
  kind := X.kind
  glob := F.glob
  blt := F.blt
  ob := fun a ha => by
    rcases ha with ha | rfl
    · exact (F.kp S.kp).ob a ha
    · obtain ⟨ys, ⟨n, e⟩, _⟩ := S.acc
      exact ⟨_, e⟩
  vars := fun y e hm => by
    obtain ⟨m, hn, hv⟩ := S.ns
    rcases List.mem_append.mp hm with q | hm
    · obtain ⟨p, hp, e2⟩ := List.mem_map.mp q
      cases e2
      obtain ⟨v, hv1, hv2⟩ := hv p hp
      exact ⟨v, .inl ⟨lookup_relabel_local (hl p hp), m, hn, hv1⟩, hv2.rep _ h⟩
    · obtain ⟨h1, h2, h3⟩ := X.sub _ hm
      obtain ⟨v', hv', he'⟩ := F.vars _ _ h1
      rcases hv' with ⟨hl, _⟩ | ⟨hl, a, ha, hc⟩
      · rw [h3] at hl; cases hl
      · refine ⟨v', .inr ⟨relabel_free F.kind h3 h2, a, clOf_acc env scope.names [] y a ha (fun b hb => by simp at hb) (.inl ?_), hc.keeps S.kp⟩, ?_⟩
        · exact List.any_eq_true.mpr ⟨(y, .free), mem_of_lookup h2, by simp⟩
        · exact he'.upd (fun b o e _ _ => S.kp b o e) (fun b o e z => z.elim id fun q => absurd (q ▸ e) (hDo o)) fun a q => .inl (by
            cases e with
            | val d => cases q
            | own a' ds => cases q; exact he'.2.1
            | app a' ds => cases q; exact he'.2.1)
theorem compStart1 {A : Around} {s : Shared} {R : Result → Shared → Prop} {elt i1 i2 : Expr} {t1 t2 : Expr} {scope : Scope} {pos : Pos} {it acc : Value} {env : Env}
    (h0 : codeAny (MM c) A (.compLoop (.ListComp elt [⟨t1, i1, [], 0⟩, ⟨t2, i2, [], 0⟩] scope pos) 1 it acc env) R s)
    (h : wpAny (MM c) A (pyIter it) (fun it' s' => codeAny (MM c) A (.compLoop (.ListComp elt [⟨t1, i1, [], 0⟩, ⟨t2, i2, [], 0⟩] scope pos) 1 it' acc env) R s') (notedBy (MM c) A env fun x s' => R (.error x) s') s) :
    codeAny (MM c) A (.compStart (.ListComp elt [⟨t1, i1, [], 0⟩, ⟨t2, i2, [], 0⟩] scope pos) 1 it acc env) R s := by
  refine codeAny_of_tree ?_
  show wpAny _ _ ((compStart (.ListComp elt [⟨t1, i1, [], 0⟩, ⟨t2, i2, [], 0⟩] scope pos) 1 it acc env).onRaise (fun x => do noteFrame x env; standAt theWindowsPlace)) _ _ s
  refine wpAny_notedAt ?_
  unfold compStart
  show wpAny _ _ (ask >>= _) _ _ s
  refine wpAny_bind (wpAny_askSetting (wpAny_ite ?_))
  split
  · first
      | exact wpAny_bind (wpAny_pure (wpAny_pure (And.intro rfl h0)))
      | exact wpAny_pure (And.intro rfl h0)
  · first
      | exact wpAny_bind (wpAny_rule (wpAny_bind (wpAny_standAt (wpAny_bind (wpAny_mono h (fun it' s' h' => wpAny_pure (And.intro rfl h')) fun _ _ x => x)))))
      | (refine wpAny_bind (wpAny_rule ?_); show wpAny _ _ (standAt i2.pos >>= _) _ _ s; exact wpAny_bind (wpAny_standAt (wpAny_bind (wpAny_mono h (fun it' s' h' => wpAny_pure (And.intro rfl h')) fun _ _ x => x))))
end
end Mine
end
section -- W23
open PySem PySem.W PyProof.Rows PySem.Calls
set_option Elab.async false
set_option linter.all false
set_option maxRecDepth 100000
namespace Mine
section
variable {c : Cx} {k : Nat} {env : Env} {O₀ O : Addr → Prop} {ρ ρ₁ ρ₂ ρ' : List (Str × Ent)} {h₀ h h' h1 h2 h3 : Heap}
theorem outer_loop {A : Around} {s : Shared} {elt i1 i2 : Expr} {x x1 x2 : Str} {p1 p2 : Pos} {scope : Scope} {pos : Pos} {C Da I : Addr} {fp wr : List Addr} {P : Nat → Value → Prop} {St : Nat → Heap → Prop} {R : Result → Shared → Prop}
    {ds1 ds0 : List D} {h : Heap} {tk : Nat} (ds2 : D → List D) (dv2 : D → D) (f : D → D → D) (ao : AOk k A) (T : Top c s.heap) (X : CompOk env scope x ρ ρ') (F : FR env O ρ s.heap)
    (W : Walks PySem.Challenge.pw_wj0045_01 c.w A I fp wr ds1.length P St) (hP : ∀ j v, P j v → ∃ d, ds1[j]? = some d ∧ Sc v d) (hC : C ∉ fp) (hD : Da ∉ fp) (hCD : Da ≠ C) (hCo : ∀ o, s.heap.get? C ≠ some o) (hDo : ∀ o, s.heap.get? Da ≠ some o)
    (hwr : ∀ b ∈ wr, ∀ o, s.heap.get? b ≠ some o) (hx1 : scope.names.lookup x1 = some .local) (hx2 : scope.names.lookup x2 = some .local) (hne : x1 ≠ x2) (hz : ds0.length + (ds1.flatMap fun d => (ds2 d).map (f d)).length ≤ 16777216)
    (hi : ∀ O d, d ∈ ds1 → EV c k (compEnvC scope (clOf env scope.names []) C env) O ((x1, .val d) :: ρ') i2 (dv2 d)) (hw : ∀ O d, d ∈ ds1 → ITER c k O (dv2 d) (ds2 d))
    (he : ∀ O d, d ∈ ds1 → ∀ d' ∈ ds2 d, EV c k (compEnvC scope (clOf env scope.names []) C env) O ((x2, .val d') :: (x1, .val d) :: ρ') elt (f d d')) (hfl : ∀ d ∈ ds1, ∀ d' ∈ ds2 d, (f d d').flat = true)
    (hs2 : ∀ v, foldedSetIterable i2 (compEnvC scope (clOf env scope.names []) C env) v = pure v)
    (S0 : CS env scope O ρ' s.heap C Da [] ds0 h) (st0 : St 0 h)
    (hR : ∀ h' tk', CS env scope O ρ' s.heap C Da [] (ds0 ++ ds1.flatMap fun d => (ds2 d).map (f d)) h' → (∀ b o, b ≠ C → b ≠ Da → b ∉ wr → h.get? b = some o → h'.get? b = some o ∨ False) → R (.ok .next) { s with heap := h', toks := tk' }) :
    codeAny (MM c) A (.compLoop (.ListComp elt [⟨.Name x1 p1, i1, [], 0⟩, ⟨.Name x2 p2, i2, [], 0⟩] scope pos) 0 (.ref I) (.ref Da) (compEnvC scope (clOf env scope.names []) C env)) R { s with heap := h, toks := tk } := by
  refine codeAny_loop rfl (fun m s' => ∃ j h' tk', s' = { s with heap := h', toks := tk' } ∧ j ≤ ds1.length ∧ m = ds1.length + 1 - j ∧ CS env scope O ρ' s.heap C Da [] (ds0 ++ (ds1.take j).flatMap fun d => (ds2 d).map (f d)) h' ∧ St j h' ∧
      (∀ b o, b ≠ C → b ≠ Da → b ∉ wr → h.get? b = some o → h'.get? b = some o)) ?_ (ds1.length + 1) ⟨0, h, tk, rfl, Nat.zero_le _, rfl, by simpa using S0, st0, fun _ _ _ _ _ e => e⟩
  rintro m s' ⟨j, hj, tk', rfl, hjl, rfl, S, stj, hk⟩
  show wpAny _ A ((compTurn _ 0 (.ref I) (.ref Da) _).onRaise (fun x => do noteFrame x _; theTreesLotGoes x)) _ _ _
  refine wpAny_noted ?_
  unfold compTurn
  show wpAny _ _ (standAt _ >>= _) _ _ _
  refine wpAny_bind (wpAny_standAt ?_)
  show wpAny _ _ (pyNext (.ref I) >>= _) _ _ _
  have Cw : C ∉ wr := fun q => hC (W.sub _ q)
  have Dw : Da ∉ wr := fun q => hD (W.sub _ q)
  have fresh : ∀ {h1 h2 : Heap} {b : Addr}, Kp s.heap h1 → (∀ b' o, b' ≠ b → h1.get? b' = some o → h2.get? b' = some o) → (∀ o, s.heap.get? b ≠ some o) → Kp s.heap h2 := fun k1 k2 n b o e => k2 b o (by rintro rfl; exact n _ e) (k1 b o e)
  by_cases hlt : j < ds1.length
  · refine wpAny_bind (W.item j _ _ _ hlt stj fun v h1 tk1 hPv st1 hk1 => ?_)
    obtain ⟨d, hd, hsc⟩ := hP j v hPv
    have hdm : d ∈ ds1 := List.mem_of_getElem? hd
    obtain ⟨m0, hn0, hm0⟩ := S.ns
    obtain ⟨ys, hacc, hrep⟩ := S.acc
    have kp1 : Kp s.heap h1 := fun b o e => hk1 b o (fun q => hwr b q o e) (S.kp b o e)
    show wpAny _ _ (letOwnedTupleGo (.Name x1 p1) (.ref I) v >>= _) _ _ _
    refine wpAny_bind (wpAny_of_eq (show letOwnedTupleGo (.Name x1 p1) (.ref I) v = pure () from rfl) ?_)
    refine wpAny_bind (wpAny_assign_Name (wpAny_storeName_local (lookup_relabel_local hx1) (hn0.at' fun o e => hk1 _ o Cw e) (fun h2 hn2 hs2' => ?_) (by simp [compEnvC, relabel, X.kind])))
    show wpAny _ _ (forIn ([] : List Expr) true _ >>= _) _ _ _
    rw [List.forIn_nil]
    refine wpAny_bind (wpAny_pure ?_)
    have kp2 : Kp s.heap h2 := fresh kp1 (fun b o n e => hs2'.extBut b o n e) hCo
    have acc2 : h2.PlainList Da ys.toArray := hacc.at fun o e => hs2'.extBut _ o hCD (hk1 _ o Dw e)
    have S2 : CS env scope O ρ' s.heap C Da [(x1, d)] (ds0 ++ (ds1.take j).flatMap fun d => (ds2 d).map (f d)) h2 := ⟨kp2, ⟨_, hn2, fun p hp => by
      rw [List.mem_singleton] at hp
      subst hp
      exact ⟨v, by simp, hsc⟩⟩, ⟨ys, acc2, hrep.any S.fl⟩, S.fl⟩
    have hl1 : ∀ p ∈ [(x1, d)], scope.names.lookup p.1 = some .local := fun p hp => by rw [List.mem_singleton.mp hp]; exact hx1
    have F2 := S2.fr2 X F hDo hl1
    show wpAny _ _ (eval i2 _ >>= _) _ _ _
    refine wpAny_bind ((hi _ d hdm).run A _ _ _ ao (T.kp kp2) F2 fun xv h3 t3 k3 r3 => ?_)
    have k3 : Kp h2 h3 := k3
    refine wpAny_bind (wpAny_standAt ?_)
    show wpAny _ _ (foldedSetIterable i2 _ xv >>= _) _ _ _
    refine wpAny_bind (wpAny_of_eq (hs2 xv) ?_)
    show wpAny _ _ (holding [xv] (pyIter xv) >>= _) _ _ _
    refine wpAny_bind (wpAny_holding ((hw _ d hdm).run A _ _ _ xv ao ((T.kp kp2).kp k3) (F2.kp k3).ob r3 fun I2 fp2 wr2 P2 St2 h4 t4 k4 W2 st20 hfp2 hwr2 hoff2 hP2 => ?_))
    have k4 : Kp h3 h4 := k4
    have hwr2 : ∀ b ∈ wr2, h3.objs.size ≤ b := hwr2
    refine wpAny_bind (wpAny_runOwn ?_)
    have S4 := (S2.kpS k3).kpS k4
    have hC2 : C ∉ fp2 := fun q => by
      obtain ⟨o, e, f0, _⟩ := hfp2 _ q
      obtain ⟨m4, ⟨o', es, ep, e', hd', _⟩, _⟩ := S4.ns
      rw [e] at e'; cases e'
      exact f0 _ _ hd'
    have hD2 : Da ∉ fp2 := fun q => by
      obtain ⟨o, e, _, _, f2⟩ := hfp2 _ q
      obtain ⟨ys4, ⟨n, e'⟩, _⟩ := S4.acc
      have e : h4.get? Da = some o := e
      rw [e] at e'; cases e'
      exact f2 rfl (.inr rfl)
    have hw2' : ∀ b ∈ wr2, ∀ o, s.heap.get? b ≠ some o := fun b hb o e => absurd (Heap.lt_size (k3 _ _ (kp2 _ _ e))) (Nat.not_lt.mpr (hwr2 b hb))
    have hlen : (ds0 ++ (ds1.take j).flatMap fun d => (ds2 d).map (f d)).length + (ds2 d).length ≤ 16777216 := by
      have e1 : ds1 = ds1.take j ++ d :: ds1.drop (j + 1) := by
        have := List.take_append_drop j ds1
        rw [List.drop_eq_getElem_cons hlt] at this
        have e2 : ds1[j] = d := by rw [List.getElem?_eq_getElem hlt] at hd; exact Option.some.inj hd
        rw [e2] at this
        exact this.symm
      have hz' := hz
      rw [e1, List.flatMap_append, List.flatMap_cons] at hz'
      simp only [List.length_append, List.length_map] at hz' ⊢
      omega
    have go : ∀ tk4, codeAny (MM c) A (.compLoop (.ListComp elt [⟨.Name x1 p1, i1, [], 0⟩, ⟨.Name x2 p2, i2, [], 0⟩] scope pos) 1 (.ref I2) (.ref Da) (compEnvC scope (clOf env scope.names []) C env))
        (fun r s' => ∃ h5 tk5, r = .ok .next ∧ s' = { s with heap := h5, toks := tk5 } ∧ CS env scope O ρ' s.heap C Da [(x1, d)] ((ds0 ++ (ds1.take j).flatMap fun d => (ds2 d).map (f d)) ++ (ds2 d).map (f d)) h5 ∧ (∀ b o, b ≠ C → b ≠ Da → b ∉ wr2 → h4.get? b = some o → h5.get? b = some o))
        { s with heap := h4, toks := tk4 } := fun tk4 =>
      inner_loop (f d) ao T X F W2 hP2 hC2 hD2 hCD hCo hDo hw2' hl1 hx2 (fun p hp => by rw [List.mem_singleton.mp hp]; exact hne) hlen (fun O d' hd' => he O d hdm d' hd') (fun d' hd' => hfl d hdm d' hd') S4 st20
        fun h5 tk5 S5 hk5 => ⟨h5, tk5, rfl, rfl, S5, hk5⟩
    refine codeAny_mono (compStart1 (go _) ?_) fun r s' hr => ?_
    · exact W2.self 0 _ _ _ st20 (go _)
    obtain ⟨h5, tk5, rfl, rfl, S5, hk5⟩ := hr
    have e1 : ds0 ++ (ds1.take (j + 1)).flatMap (fun d => (ds2 d).map (f d)) = (ds0 ++ (ds1.take j).flatMap fun d => (ds2 d).map (f d)) ++ (ds2 d).map (f d) := by
      rw [List.take_succ, hd]; simp
    refine wpAny_pure ⟨rfl, ds1.length + 1 - (j + 1), by omega, j + 1, h5, tk5, rfl, hlt, rfl, ?_, ?_, fun b o n1 n2 n3 e => ?_⟩
    · rw [e1]
      obtain ⟨m5, hn5, _⟩ := S5.ns
      exact ⟨S5.kp, ⟨m5, hn5, fun p hp => nomatch hp⟩, S5.acc, S5.fl⟩
    · exact W.frame _ _ h5 st1 fun b hb o e => by
        have e3 := k3 _ o (hs2'.extBut b o (fun q => hC (by have q : b = C := q; exact q ▸ hb)) e)
        exact hk5 b o (fun q => hC (q ▸ hb)) (fun q => hD (q ▸ hb)) (fun q => absurd (Heap.lt_size e3) (Nat.not_lt.mpr (hwr2 b q))) (k4 _ _ e3)
    · have e3 := k3 _ o (hs2'.extBut b o n1 (hk1 b o n3 (hk b o n1 n2 n3 e)))
      exact hk5 b o n1 n2 (fun q => absurd (Heap.lt_size e3) (Nat.not_lt.mpr (hwr2 b q))) (k4 _ _ e3)
  · have hin : j = ds1.length := by omega
    subst hin
    refine wpAny_bind (W.done _ _ _ stj fun h1 tk1 hk1 => ?_)
    refine wpAny_pure (hR h1 tk1 ?_ fun b o n1 n2 n3 e => .inl (hk1 b o n3 (hk b o n1 n2 n3 e)))
    rw [List.take_length] at S
    obtain ⟨m0, hn0, hm0⟩ := S.ns
    obtain ⟨ys, hacc, hrep⟩ := S.acc
    exact ⟨fun b o e => hk1 b o (fun q => hwr b q o e) (S.kp b o e), ⟨m0, hn0.at' fun o e => hk1 _ o Cw e, hm0⟩, ⟨ys, hacc.at fun o e => hk1 _ o Dw e, hrep.any S.fl⟩, S.fl⟩
end
end Mine
end
section -- W24
open PySem PySem.W PyProof.Rows PySem.Calls
set_option Elab.async false
set_option linter.all false
set_option maxRecDepth 100000
namespace Mine
section
variable {c : Cx} {k : Nat} {env : Env} {O₀ O : Addr → Prop} {ρ ρ₁ ρ₂ ρ' : List (Str × Ent)} {h₀ h h' h1 h2 h3 : Heap}
theorem XT.assignComp2 {elt i1 i2 : Expr} {x1 x2 y : Str} {p1 p2 py : Pos} {scope : Scope} {pos spos : Pos} {dv : D} {ds1 : List D} (ds2 : D → List D) (dv2 : D → D) (f : D → D → D)
    (hsw : swapsWith (.ListComp elt [⟨.Name x1 p1, i1, [], 0⟩, ⟨.Name x2 p2, i2, [], 0⟩] scope pos) (some (.Name y py)) spos.line env = pure true)
    (X : CompOk env scope x1 ρ ρ') (hyl : env.kindOf y = some .local) (hx2 : scope.names.lookup x2 = some .local) (hne : x1 ≠ x2) (hi1 : EV c k env (OwnO O₀ ρ) ρ i1 dv) (hw1 : ITER c k (OwnO O₀ ρ) dv ds1)
    (hz : (ds1.flatMap fun d => (ds2 d).map (f d)).length ≤ 16777216)
    (hi : ∀ C O d, d ∈ ds1 → EV c k (compEnvC scope (clOf env scope.names []) C env) O ((x1, .val d) :: ρ') i2 (dv2 d)) (hw : ∀ O d, d ∈ ds1 → ITER c k O (dv2 d) (ds2 d))
    (he : ∀ C O d, d ∈ ds1 → ∀ d' ∈ ds2 d, EV c k (compEnvC scope (clOf env scope.names []) C env) O ((x2, .val d') :: (x1, .val d) :: ρ') elt (f d d')) (hfl : ∀ d ∈ ds1, ∀ d' ∈ ds2 d, (f d d').flat = true)
    (hs1 : ∀ v, foldedSetIterable i1 env v = pure v := by intro _; rfl) (hs2 : ∀ C v, foldedSetIterable i2 (compEnvC scope (clOf env scope.names []) C env) v = pure v := by intro _ _; rfl) :
    XT c k env O₀ ρ (.Assign [.Name y py] (.ListComp elt [⟨.Name x1 p1, i1, [], 0⟩, ⟨.Name x2 p2, i2, [], 0⟩] scope pos) spos) (.next (setV ρ y (.val (.list (ds1.flatMap fun d => (ds2 d).map (f d)))))) := by
  refine .mk ?_
  intro A s Q E h₀ ao T F h
  rw [exec_Assign_Name_used _ _ _ _ hsw]
  refine wpAny_grows ?_
  refine wpAny_bind (wpAny_standAt (wpAny_bind ?_))
  show wpAny _ A (do let _ ← comprehension (Expr.ListComp elt [⟨Expr.Name x1 p1, i1, [], 0⟩, ⟨Expr.Name x2 p2, i2, [], 0⟩] scope pos) scope env _ (newList []) false (eval i1 env) (some (PySem.assign (Expr.Name y py) env))) _ _ s
  refine wpAny_bind (wpAny_mono (wpAny_comprehension_free (use := some (PySem.assign (Expr.Name y py) env)) (Q := fun _ s' => s.heap.objs.size ≤ s'.heap.objs.size → Q .next s') rfl hs1 (X.cl F.fr) X.kind X.names ?_) (fun _ s' hq => wpAny_pure (wpAny_pure hq)) fun _ _ e => e)
  refine hi1.run A s _ E ao (F.top T) F.fr fun xv h1 t1 k1 r1 => ?_
  refine hw1.run A _ _ E xv ao ((F.kp k1).top T) (F.kp k1).fr.ob r1 fun I fp wr P St h2 t2 k2 W st0 hfp hwr hoff hP => ?_
  have k1 : Kp s.heap h1 := k1
  have k2 : Kp h1 h2 := k2
  have k12 := k1.trans k2
  have F2 := F.kp k12
  have hwr : ∀ b ∈ wr, h1.objs.size ≤ b := hwr
  obtain ⟨mL, hL⟩ := F2.ns
  refine wpAny_newObj_type (wpAny_newFunctionEnv X.cell (by intro y hy; simp at hy) (fun h₁ hns₁ hsb₁ => ?_) X.kind)
  dsimp only at hns₁ hsb₁ ⊢
  generalize hH2 : h2.push { cls := .type "list", dict := none, data := .seq ([] : List Value).toArray } = H2 at hns₁ hsb₁ ⊢
  have hC : H2.objs.size = h2.objs.size + 1 := by rw [← hH2, Heap.size_push]
  have hDC : h2.objs.size ≠ H2.objs.size := by rw [hC]; exact Nat.ne_of_lt (Nat.lt_succ_self _)
  have below : ∀ b, b < h2.objs.size → b ≠ H2.objs.size ∧ b ≠ h2.objs.size := fun b hb => ⟨by rw [hC]; exact Nat.ne_of_lt (Nat.lt_succ_of_lt hb), Nat.ne_of_lt hb⟩
  have old : ∀ b o, h2.get? b = some o → h₁.get? b = some o := fun b o e => hsb₁.extBut b o (below b (Heap.lt_size e)).1 (Heap.get?_push_of_some _ (hH2 ▸ Heap.get?_push_of_some _ e))
  have hacc : h₁.PlainList h2.objs.size #[] := ⟨_, hsb₁.extBut _ _ hDC (Heap.get?_push_of_some _ (hH2 ▸ Heap.get?_push_size _ rfl))⟩
  have hfp' : ∀ b ∈ fp, ∃ o, h2.get? b = some o := fun b hb => let ⟨o, e, _⟩ := hfp b hb; ⟨o, e⟩
  have st1 : St 0 h₁ := W.frame _ _ _ st0 fun b _ o e => old b o e
  have hCn : ∀ o, s.heap.get? H2.objs.size ≠ some o := fun o e => (below _ (Heap.lt_size (k12 _ _ e))).1 rfl
  have hDn : ∀ o, s.heap.get? h2.objs.size ≠ some o := fun o e => (below _ (Heap.lt_size (k12 _ _ e))).2 rfl
  have hCf : H2.objs.size ∉ fp := fun q => let ⟨o, e⟩ := hfp' _ q; (below _ (Heap.lt_size e)).1 rfl
  have hDf : h2.objs.size ∉ fp := fun q => let ⟨o, e⟩ := hfp' _ q; (below _ (Heap.lt_size e)).2 rfl
  have hwr' : ∀ b ∈ wr, ∀ o, s.heap.get? b ≠ some o := fun b hb o e => absurd (Heap.lt_size (k1 _ _ e)) (Nat.not_lt.mpr (hwr b hb))
  have S1 : CS env scope (OwnO O₀ ρ) ρ' s.heap H2.objs.size h2.objs.size [] [] h₁ := ⟨fun b o e => old b o (k12 b o e), ⟨_, hns₁, fun p hp => nomatch hp⟩, ⟨[], hacc, .nil⟩, fun d hd => nomatch hd⟩
  have loop : ∀ tk, codeAny (MM c) A (.compLoop (Expr.ListComp elt [⟨Expr.Name x1 p1, i1, [], 0⟩, ⟨Expr.Name x2 p2, i2, [], 0⟩] scope pos) 0 (.ref I) (.ref h2.objs.size) (compEnvC scope (clOf env scope.names []) H2.objs.size env))
      (compPost (MM c) A E (some (PySem.assign (Expr.Name y py) env)) (fun _ s' => s.heap.objs.size ≤ s'.heap.objs.size → Q .next s') (.ref h2.objs.size) H2.objs.size) { s with heap := h₁, toks := tk } := fun tk => by
    refine outer_loop ds2 dv2 f ao (F.top T) X F.fr W hP hCf hDf hDC hCn hDn hwr' X.x hx2 hne (by simpa using hz) (fun O d hd => hi _ O d hd) hw (fun O d hd d' hd' => he _ O d hd d' hd') hfl (fun v => hs2 _ v) S1 st1 fun h5 tk5 S5 hk5 => ?_
    rw [List.nil_append] at S5
    have Lw : env.locals ∉ wr := fun q => by
      obtain ⟨m, o, es, ep, e, _⟩ := F.ns
      exact hwr' _ q _ e
    have hLC : env.locals ≠ H2.objs.size := (below _ hL.lt).1
    have hLD : env.locals ≠ h2.objs.size := (below _ hL.lt).2
    have hk5' : ∀ b o, h2.get? b = some o → b ∉ wr → h5.get? b = some o := fun b o e n => ((hk5 b o (below b (Heap.lt_size e)).1 (below b (Heap.lt_size e)).2 n (old b o e)).elim id False.elim)
    show wpAny _ A (PySem.assign (Expr.Name y py) env (.ref h2.objs.size)) _ _ _
    refine wpAny_assign_Name (wpAny_storeName_local hyl (hL.at' fun o e => hk5' _ o e Lw) (fun h6 hn6 hs6 => ?_) (by rw [F.fr.kind]; rfl))
    obtain ⟨m5, hn5, _⟩ := S5.ns
    refine ⟨m5, hn5.sameBut hs6 (Ne.symm hLC), fun h7 hs7 zz => ?_⟩
    have zz : s.heap.objs.size ≤ h7.objs.size := zz
    have hkk : ∀ b o, h2.get? b = some o → b ≠ env.locals → b ∉ wr → h7.get? b = some o := fun b o e n1 n2 => hs7.extBut b o (below b (Heap.lt_size e)).1 (hs6.extBut b o n1 (hk5' b o e n2))
    obtain ⟨ys, hpl, hrep⟩ := S5.acc
    have hpl7 : h7.PlainList h2.objs.size ys.toArray := (hpl.extBut hs6.extBut (Ne.symm hLD)).extBut hs7.extBut hDC
    have rep : Rep (OwnO O₀ ρ) h7 (.ref h2.objs.size) (.list (ds1.flatMap fun d => (ds2 d).map (f d))) := .list hpl7.isList (fun q => by
      obtain ⟨o, e⟩ := F2.fr.ob _ q
      exact (below _ (Heap.lt_size e)).2 rfl) (hrep.any S5.fl)
    have clne : ∀ n a v, env.cells.lookup n = some a → h2.IsCell a v → h7.IsCell a v := fun n a v e hc => by
      obtain ⟨o, e1, hd⟩ := id hc
      refine ⟨o, hkk a o e1 (Ne.symm (ns_ne_cell hL hc)) fun q => ?_, hd⟩
      obtain ⟨v', o', e', hd'⟩ := (F.cellAb n a e).2
      exact hwr' _ q _ e'
    refine h .next h7 _ ⟨rfl, F2.after' (v := .ref h2.objs.size) (fun b o e l n => hkk b o e n fun q => ?_) (fun b o e l => hkk b o e (fun q => ?_) fun q => ?_) ⟨_, hn6.sameBut hs7 hLC⟩ clne (.inl ⟨hyl, _, hn6.sameBut hs7 hLC, by simp⟩) (fun y' v' hne hv => ?_) (rep.sub fun a q => q.imp id setV_val_own),
      ⟨fun b o n1 n2 n3 e => hkk b o (k12 b o e) n1 (fun q => hwr' b q o e), fun a ha => .inl (setV_val_own ha), zz⟩⟩
    · obtain ⟨o', e', f1, _⟩ := hoff 0 h2 st0 b q
      rw [e] at e'; cases e'
      exact f1 l
    · have := F.above
      rw [q] at l
      exact absurd l (Nat.not_lt.mpr this)
    · obtain ⟨m, hm⟩ := F.ns
      have h5 : h₀.objs.size ≤ s.heap.objs.size := Nat.le_trans F.above (Nat.le_of_lt hm.lt)
      have h4 := hwr b q
      have : h₀.objs.size ≤ h1.objs.size := by
        have := F.above
        exact Nat.le_trans this (Nat.le_of_lt (hm.keeps k1).lt)
      exact absurd l (Nat.not_lt.mpr (Nat.le_trans this h4))
    · rcases hv with ⟨hl', m', hn', e2⟩ | ⟨hl', b, hb, hc⟩
      · refine .inl ⟨hl', _, hn6.sameBut hs7 hLC, ?_⟩
        simp only [hne, if_false]
        rw [Ns.inj hL hn']; exact e2
      · exact .inr ⟨hl', b, hb, clne _ _ _ hb hc⟩
  exact codeAny_compStart_list (loop _) (W.self 0 _ _ _ st1 (loop _))
end
end Mine
end
section -- W25
open PySem PySem.W PyProof.Rows PySem.Calls
set_option Elab.async false
set_option linter.all false
set_option maxRecDepth 100000
namespace Mine
/-- the judgements, in a state whose marks stand at N or above -/
structure XTn (N : Nat) (c : Cx) (k : Nat) (env : Env) (O₀ : Addr → Prop) (ρ : List (Str × Ent)) (st : Stmt) (r : Out) : Prop where
  run : ∀ (A : Around) (s : Shared) (Q : Flow → Shared → Prop) (E : Value → Shared → Prop) (h₀ : Heap), AOk k A → Top c h₀ → FS env h₀ O₀ ρ s.heap → N ≤ s.toks →
    (∀ fl h' tk, OutIs env h₀ O₀ ρ s.heap r fl h' → Q fl { s with heap := h', toks := tk }) → wpAny (MM c) A (exec st env) Q E s
structure XSn (N : Nat) (c : Cx) (k : Nat) (env : Env) (O₀ : Addr → Prop) (ρ : List (Str × Ent)) (body : List Stmt) (r : Out) : Prop where
  run : ∀ (A : Around) (s : Shared) (Q : Flow → Shared → Prop) (E : Value → Shared → Prop) (h₀ : Heap), AOk k A → Top c h₀ → FS env h₀ O₀ ρ s.heap → N ≤ s.toks →
    (∀ fl h' tk, OutIs env h₀ O₀ ρ s.heap r fl h' → Q fl { s with heap := h', toks := tk }) → wpAny (MM c) A (execs body env) Q E s
structure EVn (N : Nat) (c : Cx) (k : Nat) (env : Env) (O : Addr → Prop) (ρ : List (Str × Ent)) (e : Expr) (d : D) : Prop where
  run : ∀ (A : Around) (s : Shared) (Q : Value → Shared → Prop) (E : Value → Shared → Prop), AOk k A → Top c s.heap → FR env O ρ s.heap → N ≤ s.toks →
    (∀ v h' tk, Kp s.heap h' → Rep O h' v d → Q v { s with heap := h', toks := tk }) → wpAny (MM c) A (eval e env) Q E s
structure CALLn (N : Nat) (c : Cx) (k : Nat) (f : Value) (ds : List D) (d : D) : Prop where
  run : ∀ (A : Around) (s : Shared) (Q : Value → Shared → Prop) (E : Value → Shared → Prop) (O : Addr → Prop) (vs : List Value), AOk k A → Top c s.heap → OB O s.heap → RepL O s.heap vs ds → N ≤ s.toks →
    (∀ v h' tk, Kp s.heap h' → Rep O h' v d → Q v { s with heap := h', toks := tk }) → wpAny (MM c) A (call f vs) Q E s
section
variable {c : Cx} {k : Nat} {env : Env} {O₀ O : Addr → Prop} {ρ ρ₁ ρ₂ : List (Str × Ent)} {h₀ h h' h1 h2 h3 : Heap}
theorem XTn.of {N : Nat} {st : Stmt} {r : Out} (x : XT c k env O₀ ρ st r) : XTn N c k env O₀ ρ st r := ⟨fun A s Q E h₀ a T F _ h => x.run A s Q E h₀ a T F h⟩
theorem XSn.of {N : Nat} {body : List Stmt} {r : Out} (x : XS c k env O₀ ρ body r) : XSn N c k env O₀ ρ body r := ⟨fun A s Q E h₀ a T F _ h => x.run A s Q E h₀ a T F h⟩
theorem XSn.cast {N : Nat} {body : List Stmt} {r : Out} (e : ρ = ρ₁) (h : XSn N c k env O₀ ρ₁ body r) : XSn N c k env O₀ ρ body r := e ▸ h
theorem XSn.seq {N : Nat} {st : Stmt} {rest : List Stmt} {r : Out} (h1 : XTn N c k env O₀ ρ st (.next ρ₁)) (h2 : XSn N c k env O₀ ρ₁ rest r) : XSn N c k env O₀ ρ (st :: rest) r := by
  refine .mk ?_
  intro A s Q E h₀ a T F hN h
  refine wpAny_execs_cons (wpAny_with_toks hN (h1.run A s _ _ h₀ a T F hN fun fl h' tk o hN' => ?_))
  obtain ⟨rfl, F1, S1⟩ := o
  exact h2.run A _ Q _ h₀ a T F1 hN' fun fl h'' tk' o' => h fl h'' tk' (OutIs.trans S1 o')
theorem XSn.assign {N : Nat} {x : Str} {p pos : Pos} {e : Expr} {d : D} {rest : List Stmt} {r : Out} (he : EVn N c k env (OwnO O₀ ρ) ρ e d) (hx : StoreOk env x) (hr : XSn N c k env O₀ (setV ρ x (.val d)) rest r)
    (hs : swapsWith e (some (.Name x p)) pos.line env = pure false := by rfl) : XSn N c k env O₀ ρ (.Assign [.Name x p] e pos :: rest) r := by
  refine XSn.seq ⟨?_⟩ hr
  intro A s Q E h₀ a T F hN h
  refine wpAny_Assign_Name (wpAny_grows (he.run A s _ E a (F.top T) F.fr hN fun v h1 t1 k1 r1 hz => ?_)) hs
  exact F.storeS (e := .val d) (s := { s with heap := h1, toks := t1 }) k1 hz hx (show Rep _ _ _ _ from r1) (setV_val_nodup F.ownNd) fun h' tk F' S' => h .next h' tk ⟨rfl, F', S'⟩
theorem XSn.assignApp {N : Nat} {x : Str} {p pos : Pos} {e : Expr} {ds : List D} {rest : List Stmt} {r : Out} (he : EVnew c k env (OwnO O₀ ρ) ρ e ds) (hx : StoreOk env x) (hf : ∀ d ∈ ds, d.flat = true)
    (hr : ∀ a, XSn N c k env O₀ (setV ρ x (.app a ds)) rest r)
    (hs : swapsWith e (some (.Name x p)) pos.line env = pure false := by rfl) : XSn N c k env O₀ ρ (.Assign [.Name x p] e pos :: rest) r := by
  refine .mk ?_
  intro A s Q E h₀ ao T F hN h
  refine wpAny_execs_cons (wpAny_Assign_Name (wpAny_with_toks hN (wpAny_grows (he.run A s _ _ ao (F.top T) F.fr fun a vs h1 t1 k1 hn hp r1 hz hN1 => ?_))) hs)
  have hN1 : N ≤ t1 := hN1
  refine wpAny_with_toks (n := N) hN1 (F.storeS (e := .app a ds) (s := { s with heap := h1, toks := t1 }) k1 hz hx ⟨rfl, hn, hf, vs, hp, r1⟩ (setV_app_nodup (fun q => ?_) F.ownNd) fun h' tk F' S' hN2 => ?_)
  · obtain ⟨o, e2, _⟩ := own_alive F q
    exact absurd (Heap.lt_size e2) (Nat.not_lt.mpr hn)
  · exact (hr a).run A { s with heap := h', toks := tk } Q _ h₀ ao T F' hN2 fun fl h'' tk' o' => h fl h'' tk' (OutIs.trans S' o')
theorem XTn.iff {N : Nat} {t : Expr} {body orelse : List Stmt} {pos : Pos} {b : Bool} {r : Out} (ht : EB c k env (OwnO O₀ ρ) ρ t b) (h1 : b = true → XSn N c k env O₀ ρ body r) (h2 : b = false → XSn N c k env O₀ ρ orelse r) : XTn N c k env O₀ ρ (.If t body orelse pos) r := by
  refine .mk ?_
  intro A s Q E h₀ a T F hN h
  refine wpAny_If (wpAny_with_toks hN (wpAny_grows (ht.run A s _ _ a (F.top T) F.fr fun h' tk k1 hz hN1 => ?_)))
  have S1 : Step env ρ s.heap ρ h' := k1.step hz
  cases b with
  | true => exact (h1 rfl).run A _ Q _ h₀ a T (F.kp k1) hN1 fun fl h'' tk' o' => h fl h'' tk' (OutIs.trans S1 o')
  | false => exact (h2 rfl).run A _ Q _ h₀ a T (F.kp k1) hN1 fun fl h'' tk' o' => h fl h'' tk' (OutIs.trans S1 o')
theorem XTn.for_ {N : Nat} {x : Str} {p pos : Pos} {iter : Expr} {body : List Stmt} {dv : D} {ds : List D} (st : Nat → List (Str × Ent)) (he : EV c k env (OwnO O₀ ρ) ρ iter dv) (hw : ITER c k (OwnO O₀ ρ) dv ds) (hx : StoreOk env x)
    (h0 : st 0 = ρ) (hb : ∀ i d, ds[i]? = some d → XSn N c k env O₀ (setV (st i) x (.val d)) body (.next (st (i + 1))))
    (hf : ∀ v, foldedSetIterable iter env v = pure v := by intro _; rfl) : XTn N c k env O₀ ρ (.For (.Name x p) iter body [] pos) (.next (st ds.length)) := by
  refine .mk ?_
  intro A s Q E h₀ a T F hN h
  refine wpAny_For (wpAny_with_toks hN (wpAny_grows (he.run A s _ _ a (F.top T) F.fr fun v h1 t1 k1 r1 z1 hN1 => ?_))) hf
  have hN1 : N ≤ t1 := hN1
  have F1 := F.kp k1
  refine wpAny_with_toks (n := N) hN1 (wpAny_grows (hw.run A _ _ _ v a (F1.top T) F1.fr.ob r1 fun I fp wr P St h2 t2 k2 W st0 hfp hwr hoff hP z2 hN2 => ?_))
  have hN2 : N ≤ t2 := hN2
  have F2 := F1.kp k2
  have z12 : s.heap.objs.size ≤ h2.objs.size := Nat.le_trans z1 z2
  have hz1 : h₀.objs.size ≤ s.heap.objs.size := by
    obtain ⟨m, hm⟩ := F.ns
    exact Nat.le_trans F.above (Nat.le_of_lt hm.lt)
  have hwr0 : ∀ b ∈ wr, h₀.objs.size ≤ b := fun b hb => Nat.le_trans hz1 (Nat.le_trans z1 (hwr b hb))
  have W := W.bound
  have fpA : ∀ b ∈ fp, (b ≠ env.locals ∧ (∀ n, env.cells.lookup n ≠ some b) ∧ b ∉ ownAddrs ρ) ∧ b < h2.objs.size := fun b hb => by
    obtain ⟨o, e, f⟩ := hfp b hb
    exact ⟨foot0_apart F2 e f, Heap.lt_size e⟩
  refine codeAny_forLoop (fun n s' => ∃ i h' tk, s' = { s with heap := h', toks := tk } ∧ N ≤ tk ∧ i ≤ ds.length ∧ n = ds.length + 1 - i ∧ St i h' ∧ FS env h₀ O₀ (st i) h' ∧
      (∀ b o, b ≠ env.locals → (∀ n, env.cells.lookup n ≠ some b) → b ∉ ownAddrs ρ → b ∉ wr → h2.get? b = some o → h'.get? b = some o) ∧ (∀ a ∈ ownAddrs (st i), a ∈ ownAddrs ρ ∨ h2.objs.size ≤ a) ∧ h2.objs.size ≤ h'.objs.size) ?_ (ds.length + 1)
    ⟨0, h2, t2, rfl, hN2, Nat.zero_le _, rfl, st0, by rw [h0]; exact F2, fun _ _ _ _ _ _ e => e, fun a ha => .inl (by rw [h0] at ha; exact ha), Nat.le_refl _⟩
  rintro n s' ⟨i, hI, tk, rfl, hNt, hi, rfl, hst, Fi, hkI, hoI, hzI⟩
  by_cases hlt : i < ds.length
  · refine wpAny_with_toks (n := N) hNt (wpAny_grows (W.item i _ _ _ hlt hst fun v' h3 t3 hPv hst3 hk3 z3 hN3 => ?_))
    have hN3 : N ≤ t3 := hN3
    obtain ⟨_, hPv⟩ := hPv
    obtain ⟨d, hd, hsc⟩ := hP i v' hPv
    have F3 := Fi.skip hk3 (hoff i _ hst) hwr0
    refine wpAny_with_toks (n := N) hN3 (wpAny_assign_Name (F3.storeS (e := .val d) (s := { s with heap := h3, toks := t3 }) Kp.refl (Nat.le_refl _) hx (show Rep _ _ _ _ from hsc.rep _ _) (setV_val_nodup F3.ownNd) fun h4 t4 F4 S4 hN4 => ?_))
    have hN4 : N ≤ t4 := hN4
    have z3 : hI.objs.size ≤ h3.objs.size := z3
    have own4 : ∀ a ∈ ownAddrs (setV (st i) x (.val d)), a ∈ ownAddrs ρ ∨ h2.objs.size ≤ a := fun a ha => by
      rcases setV_own ha with q | q
      · cases q
      · exact hoI a q
    have hst4 : St (i + 1) h4 := W.frame _ _ _ hst3 fun b hb o e => by
      obtain ⟨⟨n1, n2, n3⟩, hl⟩ := fpA b hb
      exact S4.keep b o n1 n2 (fun q => (hoI b q).elim n3 fun z => absurd hl (Nat.not_lt.mpr z)) e
    refine wpAny_with_toks (n := N) hN4 ((hb i d hd).run A { s with heap := h4, toks := t4 } _ _ h₀ a T F4 hN4 fun fl h5 t5 o5 hN5 => ?_)
    have hN5 : N ≤ t5 := hN5
    obtain ⟨rfl, F5, S5⟩ := o5
    refine ⟨ds.length + 1 - (i + 1), by omega, i + 1, h5, t5, rfl, hN5, hlt, rfl, ?_, F5, fun b o n1 n2 n3 n4 e => ?_, fun a ha => ?_, ?_⟩
    · exact W.frame _ _ _ hst4 fun b hb o e => by
        obtain ⟨⟨n1, n2, n3⟩, hl⟩ := fpA b hb
        exact S5.keep b o n1 n2 (fun q => (own4 b q).elim n3 fun z => absurd hl (Nat.not_lt.mpr z)) e
    · have hl := Heap.lt_size e
      exact S5.keep b o n1 n2 (fun q => (own4 b q).elim n3 fun z => absurd hl (Nat.not_lt.mpr z)) (S4.keep b o n1 n2 (fun q => (hoI b q).elim n3 fun z => absurd hl (Nat.not_lt.mpr z)) (hk3 b o n4 (hkI b o n1 n2 n3 n4 e)))
    · have z4 := S4.size
      rcases S5.own a ha with q | q
      · exact own4 a q
      · exact .inr (by have : hI.objs.size ≤ h4.objs.size := Nat.le_trans z3 z4; have q : h4.objs.size ≤ a := q; omega)
    · have z4 := S4.size
      have z5 := S5.size
      have z4 : h3.objs.size ≤ h4.objs.size := z4
      have z5 : h4.objs.size ≤ h5.objs.size := z5
      omega
  · have hin : i = ds.length := by omega
    subst hin
    refine wpAny_grows (W.done _ _ _ hst fun h3 t3 hk3 z3 => ?_)
    have F3 := Fi.skip hk3 (hoff _ _ hst) hwr0
    refine wpAny_execs_nil (h .next h3 t3 ⟨rfl, F3, fun b o n1 n2 n3 e => ?_, fun a ha => ?_, ?_⟩)
    · have hl := Heap.lt_size e
      have nw : b ∉ wr := fun hb => absurd hl (Nat.not_lt.mpr (Nat.le_trans z1 (hwr b hb)))
      exact hk3 b o nw (hkI b o n1 n2 n3 nw (k2 b o (k1 b o e)))
    · rcases hoI a ha with q | q
      · exact .inl q
      · exact .inr (Nat.le_trans z12 q)
    · have z3 : hI.objs.size ≤ h3.objs.size := z3
      show s.heap.objs.size ≤ h3.objs.size
      omega
end
end Mine
end
section -- W26
open PySem PySem.W PyProof.Rows PySem.Calls
set_option Elab.async false
set_option linter.all false
set_option maxRecDepth 100000
namespace Mine
section
variable {c : Cx} {k : Nat} {env : Env} {O₀ O : Addr → Prop} {ρ ρ₁ ρ₂ : List (Str × Ent)} {h₀ h h' h1 h2 h3 : Heap}
/-- a call of a def whose frame's marks stand above the caller's -/
theorem call_cells_retN {N : Nat} {prog : Program} {w : World} {A : Around} {R : Result → Shared → Prop} {s : Shared} {name : Str} {params : Arguments} {body : List Stmt} {scope : Scope}
    {pm cd doc : Value} {a : Addr} {o : Obj} {args : List Value} {binds : List (Str × Value)} (hN : N ≤ s.toks)
    (hroom : A.depth < recursionLimit) (ho : s.heap.get? a = some o) (hdata : o.data = .func (docDef name params body scope pm cd doc)) (hlim : s.heap.NoLimit) (hcd : s.heap.CodeRec cd name)
    (hbind : bindArgs (docDef name params body scope pm cd doc) ⟨args, []⟩ = pure binds)
    (hkind : ∀ x ∈ binds, scope.names.lookup x.1 = some .local ∨ (scope.names.lookup x.1 = some .cell ∧ ((cellsFrom (s.heap.objs.size + 1) scope.names []).lookup x.1).isSome = true))
    (h : ∀ h₁ tk, N ≤ tk → Fr s.heap s.heap.objs.size h₁ (bindL (envOfC name scope s.heap.objs.size a cd).kindOf binds fun _ => none) →
      Cl s.heap.objs.size (cellsFrom (s.heap.objs.size + 1) scope.names []) h₁ (bindC (envOfC name scope s.heap.objs.size a cd).kindOf binds fun _ => none) →
      wpAny (model prog w) (A.deeper (envOfC name scope s.heap.objs.size a cd)) (execs body (envOfC name scope s.heap.objs.size a cd))
        (fun f s' => R (.ok (.ret (match f with | .ret v => v | _ => .none))) s') (fun _ _ => False) { s with heap := h₁, toks := tk })
    (hco : scope.isCoroutine = false) (hgen : scope.isGenerator = false) (hk : scope.kind = .function) :
    codeAny (model prog w) A (.call (.ref a) ⟨args, []⟩) R s := by
  refine codeAny_call_function hroom ho hdata hco hgen rfl hcd ?_
  rw [hbind]
  refine wpAny_pure (wpAny_with_toks hN (wpAny_newFunctionEnv_cells hk hkind fun env he s' x hN' => ?_))
  subst he
  refine ⟨hlim.keeps x.toInCall.keep, codeAny_func ?_⟩
  obtain ⟨h₁, tk, rfl, _⟩ := x.done
  exact wpAny_mono (h h₁ tk hN' ⟨x.toInCall.ns, x.toInCall.keep, x.toInCall.fresh⟩ ⟨x.cell, x.apart, x.above⟩) (fun _ _ x => x) (fun _ _ x => x.elim)
theorem Fn.enterN {N : Nat} {a : Addr} {name : Str} {xs : List Str} {body : List Stmt} {scope : Scope} {ds : List D} {d : D} (X : Fn c a name xs body scope) (hl : xs.length = ds.length)
    (hb : ∀ (O₀ : Addr → Prop) (L : Addr) (cd : Value), XSn N c k (envOfC name scope L a cd) O₀ (xs.zip (ds.map .val)) body (.ret d)) : CALLn N c (k + 1) (.ref a) ds d := by
  refine .mk ?_
  intro A s Q E O vs ao T ob r hN h
  obtain ⟨o, params, pm, cd, doc, hK, hd, hcd, hbind⟩ := X.def_
  have hvl : vs.length = xs.length := by rw [r.length, hl]
  have hzn : (xs.zip vs).map (·.1) = xs := zip_names hvl.symm
  refine wpAny_call ?_
  refine call_cells_retN hN (by have := ao.depth; omega) (T.k _ _ hK) hd T.lim (hcd _ T) (hbind vs hvl) (fun x hx => ?_) (fun h₁ tk hN1 F C => ?_) X.co X.gen X.kind
  · have hx' : x.1 ∈ xs := hzn ▸ List.mem_map.mpr ⟨x, hx, rfl⟩
    rcases X.params _ hx' with q | q
    · exact .inl q
    · obtain ⟨b, hb⟩ := cells_of (n := s.heap.objs.size + 1) q
      exact .inr ⟨q, by rw [hb]; rfl⟩
  · have ao' : AOk k (A.deeper (envOfC name scope s.heap.objs.size a cd)) := ⟨ao.handled, by have := ao.depth; show A.depth + 1 + k < _; omega, by have := ao.units; show A.units + 3 + 20 * k + 20 < _; omega⟩
    have FSx : FS (envOfC name scope s.heap.objs.size a cd) s.heap O (xs.zip (ds.map .val)) h₁ := by
      refine ⟨⟨X.kind, rfl, rfl, fun x e hm => ?_, fun b hb => ?_⟩, F.keep, ⟨_, F.ns⟩, Nat.le_refl _, fun n b e2 => ?_, fun n n' b e1 e2 => ?_, ?_, ?_, ?_, fun b hb => ?_⟩
      · obtain ⟨v, hv, he⟩ := zip_reps r hm
        have hx' : x ∈ xs := hzn ▸ List.mem_map.mpr ⟨_, hv, rfl⟩
        refine ⟨v, ?_, ?_⟩
        · rcases X.params _ hx' with q | q
          · exact .inl ⟨q, _, F.ns, bindL_mem (by rw [hzn]; exact X.nd) hv q⟩
          · obtain ⟨b, hb⟩ := cells_of (n := s.heap.objs.size + 1) q
            have hc := C.cell x b hb
            have q' : (envOfC name scope s.heap.objs.size a cd).kindOf x = some .cell := q
            rw [bindC_mem (by rw [hzn]; exact X.nd) hv (by rw [q']; intro z; cases z)] at hc
            exact .inr ⟨q, b, hb, hc⟩
        · have hh := he.kp F.keep
          cases e with
          | val d =>
            refine Rep.sub hh fun b q => ?_
            rcases q with q | q
            · exact q
            · rw [zip_own] at q; cases q
          | own b ds' => have := addr_own hm (a := b) rfl; rw [zip_own] at this; cases this
          | app b ds' => have := addr_own hm (a := b) rfl; rw [zip_own] at this; cases this
      · rcases hb with q | q
        · obtain ⟨o, e⟩ := ob b q
          exact ⟨o, F.keep _ _ e⟩
        · rw [zip_own] at q; cases q
      · exact ⟨Nat.le_of_lt (C.above n b (mem_of_lookup e2)), _, C.cell n b e2⟩
      · exact name_of_addr C.apart (mem_of_lookup e1) (mem_of_lookup e2)
      · intro b hb; rw [zip_own] at hb; cases hb
      · rw [zip_own]; exact List.nodup_nil
      · rw [zip_names (by simp [hl])]; exact X.nd
      · obtain ⟨o, e⟩ := ob b hb
        exact Heap.lt_size e
    refine (hb O s.heap.objs.size cd).run _ _ _ _ s.heap ao' T FSx hN1 fun fl h' tk' oi => ?_
    obtain ⟨v, rfl, kp, rv⟩ := oi
    exact h v h' tk' kp rv
/-- x.append(e) -/
theorem XTn.append {N : Nat} {x : Str} {px apos pos spos : Pos} {e : Expr} {a : Addr} {ds : List D} {d : D} (hm : (x, Ent.app a ds) ∈ ρ) (he : EVn N c k env (OwnO O₀ ρ) ρ e d) (hf : d.flat = true) (hz : ds.length ≤ 16777216)
    (hbase : attributeBase (.Name x px) "append" env (eval (.Name x px) env) = eval (.Name x px) env := by rfl)
    (hfew : ((backTo pos (starEach [e] env)).all (fun x => !x.1) && (backToKw pos (keywordEach [] env)).all (fun x => x.1.isSome)
      && decide (([e] : List Expr).length + ([] : List Keyword).length + (if ([] : List Keyword).isEmpty then 0 else 1) < 30)) = true := by rfl)
    (hline : (apos.endLine == pos.line) = true := by rfl) (htrees : backTo pos (starEach [e] env) = [(false, eval e env)] := by rfl)
    (hd : (x == ("__debug__" : Str)) = false := by decide +kernel) (hi : interactive env = false := by rfl)
    (hsw : swapsWith (.Call (.Attribute (.Name x px) "append" apos) [e] [] pos) none spos.line env = pure false := by rfl) :
    XTn N c k env O₀ ρ (.Expr (.Call (.Attribute (.Name x px) "append" apos) [e] [] pos) spos) (.next (setV ρ x (.app a (ds ++ [d])))) := by
  refine .mk ?_
  intro A s Q E h₀ ao T F hN h
  refine wpAny_Expr (wpAny_Call_append hbase hfew hline htrees (name_ent F.fr hm (fun v ev => ?_) hd)) hi hsw
  obtain ⟨rfl, ho, hfl, vs, hl, hr⟩ := id ev
  refine ⟨a, _, rfl, hl, wpAny_grows (he.run A s _ E ao (F.top T) F.fr hN fun v h1 t1 k1 r1 z1 => ?_)⟩
  refine wpAny_grows (list_append_plainL (s := { s with heap := h1, toks := t1 }) (hl.keeps k1) (fun h2 hl2 hs2 z2 => ?_) (by rw [sizeLine_eq]; have := hr.length; simp only [List.size_toArray]; omega))
  have G := F.kp k1
  obtain ⟨F2, S2⟩ := G.touch (e := .app a ds) (f := .app a (ds ++ [d])) (h' := h2) hm rfl rfl (fun b o n e => (hs2.2 b n).trans e) fun v' ev' => by
    obtain ⟨rfl, ho', _, _⟩ := ev'
    refine ⟨rfl, ho', fun d' hd' => ?_, vs ++ [v], by simpa using hl2, ?_⟩
    · rcases List.mem_append.mp hd' with q | q
      · exact hfl _ q
      · rw [List.mem_singleton.mp q]; exact hf
    · exact (RepL.append (hr.kp k1) (.cons r1 .nil) (h := h1) |>.any fun d' hd' => by
        rcases List.mem_append.mp hd' with q | q
        · exact hfl _ q
        · rw [List.mem_singleton.mp q]; exact hf)
  exact h .next h2 t1 ⟨rfl, F2, (k1.step z1).trans (S2 z2)⟩

theorem EVn.of {N : Nat} {e : Expr} {d : D} (x : EV c k env O ρ e d) : EVn N c k env O ρ e d := ⟨fun A s Q E a T F _ h => x.run A s Q E a T F h⟩
theorem CALLn.of {N : Nat} {f : Value} {ds : List D} {d : D} (x : CALL c k f ds d) : CALLn N c k f ds d := ⟨fun A s Q E O vs a T ob r _ h => x.run A s Q E O vs a T ob r h⟩
theorem EVn.callF {N : Nat} {f : Str} {p pos : Pos} {e : Expr} {es : List Expr} {ds : List D} {d : D} {a : Addr} {name : Str} {xs : List Str} {body : List Stmt} {scope : Scope} (X : Fn c a name xs body scope) (hm : c.mg f = some (.ref a))
    (hf : CALLn N c k (.ref a) ds d) (hargs : EVs c k env O ρ pos (e :: es) ds) (hx : env.kindOf f = some .globalImplicit)
    (hd : (f == ("__debug__" : Str)) = false := by decide +kernel)
    (hs : starEach (e :: es) env = (false, eval e env) :: starEach es env := by rfl)
    (he : eval (.Call (.Name f p) (e :: es) [] pos) env = (do callWith pos (← eval (.Name f p) env) [] (backTo pos (starEach (e :: es) env)) (backToKw pos (keywordEach [] env))) := by rfl) :
    EVn N c k env O ρ (.Call (.Name f p) (e :: es) [] pos) d := by
  obtain ⟨o, params, pm, cd, doc, hK, hfd, _⟩ := X.def_
  refine .mk ?_
  intro A s Q E ao T F hN h
  refine Call_ (EV.globalName T F hx hm ?_ hd) he
  refine callWith_function (o := o) (fd := docDef name params body scope pm cd doc) (wpAny_with_toks hN (args_of hargs hs ao T F fun vs h1 t1 k1 r1 hN1 => ⟨⟨(T.kp k1).k _ _ hK, hfd⟩, ?_⟩))
  exact hf.run A _ Q _ O vs ao (T.kp k1) (F.kp k1).ob r1 hN1 fun v h' tk k2 r2 => h v h' tk (k1.trans k2) r2
end
end Mine
end
section -- W27
open PySem PySem.W PyProof.Rows PySem.Calls
set_option Elab.async false
set_option linter.all false
set_option maxRecDepth 100000
namespace Mine
section
variable {c : Cx} {k : Nat} {env : Env} {O₀ O : Addr → Prop} {ρ ρ₁ ρ₂ : List (Str × Ent)} {h₀ h h' h1 h2 h3 : Heap}
theorem Fn.raw {N : Nat} {a : Addr} {name : Str} {xs : List Str} {body : List Stmt} {scope : Scope} {ds : List D} {A : Around} {s : Shared} {Q E : Value → Shared → Prop} {O : Addr → Prop} {vs : List Value} (X : Fn c a name xs body scope) (hl : xs.length = ds.length)
    (ao : AOk (k + 1) A) (T : Top c s.heap) (ob : OB O s.heap) (r : RepL O s.heap vs ds) (hN : N ≤ s.toks)
    (hb : ∀ (cd : Value) (h₁ : Heap) (tk : Nat), AOk k (A.deeper (envOfC name scope s.heap.objs.size a cd)) → FS (envOfC name scope s.heap.objs.size a cd) s.heap O (xs.zip (ds.map .val)) h₁ → N ≤ tk →
      h₁.Ns s.heap.objs.size (bindL (envOfC name scope s.heap.objs.size a cd).kindOf (xs.zip vs) fun _ => none) →
      wpAny (MM c) (A.deeper (envOfC name scope s.heap.objs.size a cd)) (execs body (envOfC name scope s.heap.objs.size a cd)) (fun f s' => Q (match f with | .ret v => v | _ => .none) s') (fun _ _ => False) { s with heap := h₁, toks := tk }) :
    wpAny (MM c) A (call (.ref a) vs) Q E s := by
  obtain ⟨o, params, pm, cd, doc, hK, hd, hcd, hbind⟩ := X.def_
  have hvl : vs.length = xs.length := by rw [r.length, hl]
  have hzn : (xs.zip vs).map (·.1) = xs := zip_names hvl.symm
  refine wpAny_call ?_
  refine call_cells_retN hN (by have := ao.depth; omega) (T.k _ _ hK) hd T.lim (hcd _ T) (hbind vs hvl) (fun x hx => ?_) (fun h₁ tk hN1 F C => ?_) X.co X.gen X.kind
  · have hx' : x.1 ∈ xs := hzn ▸ List.mem_map.mpr ⟨x, hx, rfl⟩
    rcases X.params _ hx' with q | q
    · exact .inl q
    · obtain ⟨b, hb⟩ := cells_of (n := s.heap.objs.size + 1) q
      exact .inr ⟨q, by rw [hb]; rfl⟩
  · have ao' : AOk k (A.deeper (envOfC name scope s.heap.objs.size a cd)) := ⟨ao.handled, by have := ao.depth; show A.depth + 1 + k < _; omega, by have := ao.units; show A.units + 3 + 20 * k + 20 < _; omega⟩
    have FSx : FS (envOfC name scope s.heap.objs.size a cd) s.heap O (xs.zip (ds.map .val)) h₁ := by
      refine ⟨⟨X.kind, rfl, rfl, fun x e hm => ?_, fun b hb => ?_⟩, F.keep, ⟨_, F.ns⟩, Nat.le_refl _, fun n b e2 => ?_, fun n n' b e1 e2 => ?_, ?_, ?_, ?_, fun b hb => ?_⟩
      · obtain ⟨v, hv, he⟩ := zip_reps r hm
        have hx' : x ∈ xs := hzn ▸ List.mem_map.mpr ⟨_, hv, rfl⟩
        refine ⟨v, ?_, ?_⟩
        · rcases X.params _ hx' with q | q
          · exact .inl ⟨q, _, F.ns, bindL_mem (by rw [hzn]; exact X.nd) hv q⟩
          · obtain ⟨b, hb⟩ := cells_of (n := s.heap.objs.size + 1) q
            have hc := C.cell x b hb
            have q' : (envOfC name scope s.heap.objs.size a cd).kindOf x = some .cell := q
            rw [bindC_mem (by rw [hzn]; exact X.nd) hv (by rw [q']; intro z; cases z)] at hc
            exact .inr ⟨q, b, hb, hc⟩
        · have hh := he.kp F.keep
          cases e with
          | val d =>
            refine Rep.sub hh fun b q => ?_
            rcases q with q | q
            · exact q
            · rw [zip_own] at q; cases q
          | own b ds' => have := addr_own hm (a := b) rfl; rw [zip_own] at this; cases this
          | app b ds' => have := addr_own hm (a := b) rfl; rw [zip_own] at this; cases this
      · rcases hb with q | q
        · obtain ⟨o, e⟩ := ob b q
          exact ⟨o, F.keep _ _ e⟩
        · rw [zip_own] at q; cases q
      · exact ⟨Nat.le_of_lt (C.above n b (mem_of_lookup e2)), _, C.cell n b e2⟩
      · exact name_of_addr C.apart (mem_of_lookup e1) (mem_of_lookup e2)
      · intro b hb; rw [zip_own] at hb; cases hb
      · rw [zip_own]; exact List.nodup_nil
      · rw [zip_names (by simp [hl])]; exact X.nd
      · obtain ⟨o, e⟩ := ob b hb
        exact Heap.lt_size e
    exact hb cd h₁ tk ao' FSx hN1 F.ns
theorem FS.storeX {x : Str} {d : D} {v : Value} {h1 : Heap} {A : Around} {s : Shared} {Q : Unit → Shared → Prop} {E : Value → Shared → Prop} (F : FS env h₀ O₀ ρ h1) (k1 : Kp h1 s.heap)
    (hl : env.kindOf x = some .local) (he : Rep (OwnO O₀ ρ) s.heap v d)
    (h : ∀ h' tk m, s.toks ≤ tk → FS env h₀ O₀ (setV ρ x (.val d)) h' → h'.Ns env.locals m → m x = some v → Q () { s with heap := h', toks := tk }) : wpAny (MM c) A (storeName env x v) Q E s := by
  have F2 := F.kp k1
  obtain ⟨m, hm⟩ := F2.ns
  refine wpAny_storeName_local hl hm (fun h' hn hs => h h' _ _ (by simp) (F.after (e := .val d) k1 hs (.inl rfl) ⟨_, hn⟩ (fun n b e2 => ?_) (.inl ⟨hl, _, hn, by simp⟩) (fun y v' hne hv => ?_) he (setV_val_nodup F.ownNd)) hn (by simp)) ?_
  · obtain ⟨_, v, hc⟩ := F2.cellAb n b e2
    exact ⟨v, hc.sameBut hs (Ne.symm (ns_ne_cell hm hc))⟩
  · rcases hv with ⟨hl', m', hn', e2⟩ | ⟨hl', b, hb, hc⟩
    · exact .inl ⟨hl', _, hn, by simp only [hne, if_false]; rw [Ns.inj hm hn']; exact e2⟩
    · exact .inr ⟨hl', b, hb, hc.sameBut hs (Ne.symm (ns_ne_cell hm hc))⟩
  · rw [F.fr.kind]; rfl
theorem dictGetRaw {x : Str} {px apos pos : Pos} {e : Expr} {a : Addr} {f : Int → Option Value} {i : Int} {A : Around} {s : Shared} {Q E : Value → Shared → Prop} (he : EV c k env O ρ e (.int i)) (hx : env.kindOf x = some .globalImplicit) (hm : c.mg x = some (.ref a))
    (hD : ∀ h, Top c h → h.MapOf (intKind PySem.Challenge.pw_wj0045_01 c.w) a f) (hds : (a == sysModules) = false) (ao : AOk k A) (T : Top c s.heap) (F : FR env O ρ s.heap)
    (h : ∀ h1 tk, Kp s.heap h1 → Q ((f i).getD .none) { s with heap := h1, toks := tk })
    (hd : (x == ("__debug__" : Str)) = false := by decide +kernel)
    (hbase : attributeBase (.Name x px) "get" env (eval (.Name x px) env) = eval (.Name x px) env := by rfl) (hs : starEach [e] env = [(false, eval e env)] := by rfl) (hline : (apos.endLine == pos.line) = true := by rfl) :
    wpAny (MM c) A (eval (.Call (.Attribute (.Name x px) "get" apos) [e] [] pos) env) Q E s := by
  refine Call_method1 hbase hs hline (EV.globalName T F hx hm ?_ hd)
  refine ⟨"dict", "dict.get", PySem.F.plainAttrs_dict, PySem.F.slot_dict_get, PySem.F.type_dict_get, (hD _ T).typeIs, (hD _ T).noDict, ?_⟩
  refine wpAny_dict_get1 (knd := intKind _ c.w) hds (he.run A s _ E ao T F fun v h1 t1 k1 r1 => ?_)
  cases r1
  exact ⟨_, f, intKind_is _ _ _ _, hD _ (T.kp k1), h h1 _ k1⟩
theorem lowerRaw {o : Expr} {apos pos : Pos} {l r : List Nat} {A : Around} {s : Shared} {Q E : Value → Shared → Prop} (ho : EV c k env O ρ o (.str l)) (ao : AOk k A) (T : Top c s.heap) (F : FR env O ρ s.heap)
    (hr : (placed (⟨l.toArray⟩ : Str) fun i _ => Unicode.lowerAt l.toArray i) = r.toArray) (hz : r.length ≤ 16777216)
    (h : ∀ h1 tk, Kp s.heap h1 → s.toks ≤ tk → Q (.str ⟨r.toArray⟩ tk) { s with heap := h1, toks := tk + 1 })
    (hbase : attributeBase o "lower" env (eval o env) = eval o env := by rfl) (hline : (apos.endLine == pos.line) = true := by rfl) :
    wpAny (MM c) A (eval (.Call (.Attribute o "lower" apos) [] [] pos) env) Q E s := by
  refine Call_method0 hbase hline (wpAny_with_toks (Nat.le_refl s.toks) (ho.run A s _ _ ao T F fun v1 h1 t1 k1 r1 hN1 => ?_))
  have hN1 : s.toks ≤ t1 := hN1
  cases r1 with | str _ tt =>
  refine ⟨"str", "str.lower", PySem.F.plainAttrs_str, PySem.F.slot_str_lower, PySem.F.type_str_lower, typeIs_str _ _ _, (fun a e => nomatch e), ?_⟩
  refine Calls.callWith_builtin rfl (PySem.evalArgs_none ?_)
  have hf : Builtin.Str.tooLong (placed (⟨l.toArray⟩ : Str) fun i _ => Unicode.lowerAt l.toArray i).size = false := by
    rw [hr]; unfold Builtin.Str.tooLong; rw [sizeLine_eq]; simpa using hz
  refine call_gives PySem.F.slot_str_lower (typeIs_str _ _ _) PySem.F.entry_str_lower (PySem.F.args_str_lower_1 _) (gives_str_lower _ _ hf) ⟨?_, ?_⟩
  · show (Array.size _) ≤ sizeLine
    rw [hr, sizeLine_eq]; simpa using hz
  · rw [hr]
    exact h h1 t1 k1 hN1
end
end Mine
end
section -- W28
open PySem PySem.W PyProof.Rows PySem.Calls
set_option Elab.async false
set_option linter.all false
set_option maxRecDepth 100000
namespace Mine
section
variable {prog : Program} {w : World} {A : Around} {E : Value → Shared → Prop} {s : Shared}
/-- the next pair of an enumerate over an ascii text, with the sign's own mark -/
theorem enumNext {e it : Addr} {x : Str} {t : Tok} {i c : Nat} {old : Value} {Q : Option Value → Shared → Prop} (he : IsEnum s.heap e it i old) (hit : s.heap.IsStrIter it "str_ascii_iterator" x t i) (hx : x.cps[i]? = some c) (hne : e ≠ it)
    (hQ : ∀ h', IsEnumOut h' e it ((i : Int) + 1) (.str ⟨#[c]⟩ s.toks) s.heap.objs.size → h'.IsStrIter it "str_ascii_iterator" x t (i + 1) →
      h'.get? s.heap.objs.size = some { cls := .type "tuple", data := .seq #[.int i (s.toks + 1), .str ⟨#[c]⟩ s.toks] } → h'.objs.size = s.heap.objs.size + 1 →
      (∀ b o, b ≠ e → b ≠ it → s.heap.get? b = some o → h'.get? b = some o) → Q (some (.ref s.heap.objs.size)) { s with heap := h', toks := s.toks + 1 + 1 }) :
    wpAny (model prog w) A (pyNext (.ref e)) Q E s := by
  have hT : s.TypeIs (.ref e) "enumerate" := ⟨_, he, rfl⟩
  unfold pyNext
  refine wpAny_bind (wpAny_attempt (wpAny_callSpecial?_slot (name := Str.ofString "__next__") hT PySem.F.slot_enumerate_next
    (wpAny_call_entry PySem.F.slot_enumerate_next hT PySem.F.entry_enumerate_next ?_ (PySem.F.args_enumerate_next_1 _))))
  obtain ⟨hp, g, d, tk, os⟩ := s
  show wpAny _ _ (field (.ref e) 2 >>= _) _ _ _
  refine wpAny_bind (wpAny_field he rfl (x := .ref it) rfl ?_)
  have lt : e < hp.objs.size := Heap.lt_size he
  refine wpAny_bind (wpAny_nextOf_ascii_item hit hx fun a1 it1 b1 => ?_)
  have b1 : Heap.SameBut it hp a1 := b1
  have e1 : IsEnum a1 e it i old := (b1.2 e hne).trans he
  show wpAny _ _ (field (.ref e) 3 >>= _) _ _ ⟨a1, g, d, tk + 1, os⟩
  refine wpAny_bind (wpAny_field e1 rfl (x := rawInt i) rfl ?_)
  show wpAny _ _ (field (.ref e) 4 >>= _) _ _ ⟨a1, g, d, tk + 1, os⟩
  refine wpAny_bind (wpAny_field e1 rfl (x := .none) rfl ?_)
  show wpAny _ _ (mkInt i >>= _) _ _ ⟨a1, g, d, tk + 1, os⟩
  refine wpAny_bind (wpAny_mkInt ?_)
  refine wpAny_bind (wpAny_setField_rec (s := ⟨a1, g, d, tk + 1 + 1, os⟩) e1 (by simp) fun a2 e2 b2 => ?_)
  have b2 : Heap.SameBut e a1 a2 := b2
  have e2 : IsEnum a2 e it ((i : Int) + 1) old := e2
  refine wpAny_bind (wpAny_setField_rec (s := ⟨a2, g, d, tk + 1 + 1, os⟩) e2 (by simp) fun a3 e3 b3 => ?_)
  have b3 : Heap.SameBut e a2 a3 := b3
  have e3 : IsEnum a3 e it ((i : Int) + 1) old := e3
  show wpAny _ _ (newTuple [.int i (tk + 1), .str ⟨#[c]⟩ tk] >>= _) _ _ ⟨a3, g, d, tk + 1 + 1, os⟩
  refine wpAny_bind (wpAny_newTuple ?_)
  have z3 : a3.objs.size = hp.objs.size := by rw [b3.1, b2.1, b1.1]
  have k3 : ∀ b o, b ≠ e → b ≠ it → hp.get? b = some o → a3.get? b = some o := fun b o n1 n2 q => b3.extBut b o n1 (b2.extBut b o n1 (b1.extBut b o n2 q))
  have i3 : a3.IsStrIter it "str_ascii_iterator" x t (i + 1) := let ⟨o, q, r⟩ := it1; ⟨o, b3.extBut _ o (Ne.symm hne) (b2.extBut _ o (Ne.symm hne) q), r⟩
  let tp : Obj := { cls := .type "tuple", data := .seq #[.int i (tk + 1), .str ⟨#[c]⟩ tk] }
  have e4 : IsEnum (a3.push tp) e it ((i : Int) + 1) old := Heap.get?_push_of_some _ e3
  have t4 : (a3.push tp).get? hp.objs.size = some tp := by rw [← z3]; exact Heap.get?_push_size _ rfl
  have z4 : (a3.push tp).objs.size = hp.objs.size + 1 := by rw [Heap.size_push, z3]
  have k4 : ∀ b o, b ≠ e → b ≠ it → hp.get? b = some o → (a3.push tp).get? b = some o := fun b o n1 n2 q => Heap.get?_push_of_some _ (k3 b o n1 n2 q)
  have i4 : (a3.push tp).IsStrIter it "str_ascii_iterator" x t (i + 1) := let ⟨o, q, r⟩ := i3; ⟨o, Heap.get?_push_of_some _ q, r⟩
  show wpAny _ _ (Builtin.SmallTypes.ownedTupleIsFree (.ref e) >>= _) _ _ ⟨a3.push tp, g, d, tk + 1 + 1, os⟩
  have zz : ({ heap := a3, gens := g, drawn := d, toks := tk + 1 + 1, os := os } : Shared).heap.objs.size = hp.objs.size := z3
  rw [zz]
  generalize a3.push tp = a4 at *
  refine wpAny_bind ?_
  unfold Builtin.SmallTypes.ownedTupleIsFree
  refine wpAny_bind (wpAny_field e4 rfl (x := .none) rfl (wpAny_pure ?_))
  simp only [if_true]
  refine wpAny_bind (wpAny_rule ?_)
  refine wpAny_bind (wpAny_field e4 rfl (x := old) rfl ?_)
  refine wpAny_bind (wpAny_setField_rec e4 (by simp) fun a5 e5 b5 => ?_)
  have b5 : Heap.SameBut e a4 a5 := b5
  have e5 : IsEnum a5 e it ((i : Int) + 1) (.str ⟨#[c]⟩ tk) := e5
  show wpAny _ _ (Builtin.SmallTypes.ownedTupleHandOut (.ref e) (.ref hp.objs.size) >>= _) _ _ ⟨a5, g, d, tk + 1 + 1, os⟩
  refine wpAny_bind ?_
  unfold Builtin.SmallTypes.ownedTupleHandOut
  refine wpAny_bind (wpAny_setField_rec e5 (by simp) fun a6 e6 b6 => ?_)
  have b6 : Heap.SameBut e a5 a6 := b6
  have e6 : IsEnumOut a6 e it ((i : Int) + 1) (.str ⟨#[c]⟩ tk) hp.objs.size := e6
  refine wpAny_setField_rec e6 (by simp) fun a7 e7 b7 => ?_
  have b7 : Heap.SameBut e a6 a7 := b7
  have e7 : IsEnumOut a7 e it ((i : Int) + 1) (.str ⟨#[c]⟩ tk) hp.objs.size := e7
  have k7 : ∀ b o, b ≠ e → a4.get? b = some o → a7.get? b = some o := fun b o n q => b7.extBut b o n (b6.extBut b o n (b5.extBut b o n q))
  refine wpAny_bind (wpAny_letGo (wpAny_pure ⟨_, rfl, wpAny_pure (hQ a7 e7 ?_ (k7 _ _ (Nat.ne_of_gt lt) t4) (by rw [b7.1, b6.1, b5.1, z4]) fun b o n1 n2 q => k7 b o n1 (k4 b o n1 n2 q))⟩))
  obtain ⟨o, q, r⟩ := i4
  exact ⟨o, k7 _ o (Ne.symm hne) q, r⟩
end
end Mine
end
section
open PySem PySem.W PyProof.Rows PySem.Calls Mine
set_option Elab.async false
set_option linter.all false
set_option maxRecDepth 100000
local macro_rules | `(tactic| walk_at "mem") => `(tactic| (repeat (first | with_reducible exact List.mem_cons_self | with_reducible refine List.mem_cons_of_mem _ ?_)))
local macro_rules | `(tactic| walk_at "kind") => `(tactic| first | exact envC_local (by decide +kernel) | exact envC_cell (by decide +kernel) | exact envC_kind (by decide +kernel) | exact comp_gi (by decide +kernel))
local macro_rules | `(tactic| walk_at "set") => `(tactic| first | refine XS.cast (by with_reducible (simp (disch := decide +kernel) only [setV_hit, setV_miss, setV_nil]; try rfl)) ?_ | refine XSn.cast (by with_reducible (simp (disch := decide +kernel) only [setV_hit, setV_miss, setV_nil]; try rfl)) ?_)
local macro_rules | `(tactic| walk_at "set1") => `(tactic| simp (disch := decide +kernel) only [setV_hit, setV_miss, setV_nil])
local macro_rules | `(tactic| walk_at "frz") => `(tactic| (with_reducible (simp only [frz_val, frz_own, frz_app, frz_nil]; try rfl)))
local macro_rules | `(tactic| walk_at "ev") => `(tactic| first
  | with_reducible exact EV.intC | with_reducible exact EV.noneC | with_reducible exact EV.boolC
  | (with_reducible refine EV.var ?_; (walk_at "mem"); done)
  | with_reducible refine EV.add_int ?_ ?_ | with_reducible refine EV.sub_int ?_ ?_ | with_reducible refine EV.add_list ?_ ?_ ?_
    | with_reducible refine EV.listD ?_ ?_ | with_reducible refine EV.tupD ?_ ?_ | exact EVs.nil | refine EVs.cons ?_ ?_
  | (with_reducible show List.length _ ≤ _; first | (simp; done) | (simp; omega))
  | with_reducible refine EV.item ?_ ?_ ?_ ?_ ?_)
local macro_rules | `(tactic| walk_at "sub") => `(tactic| (repeat (first | with_reducible exact List.Sublist.refl _ | with_reducible exact List.nil_sublist _ | with_reducible refine List.Sublist.cons_cons _ ?_ | with_reducible refine List.Sublist.cons _ ?_)))
section -- F10
open PySem PySem.W PyProof.Rows PySem.Calls
set_option Elab.async false
set_option linter.all false
set_option maxRecDepth 100000
namespace Mine
variable {c : Cx} {k N : Nat}
theorem map_raw (P : PG c) {f : Int → Option Value} (hD : ∀ h, Top c h → h.MapOf (intKind PySem.Challenge.pw_wj0045_01 c.w) 115 f) (n x : Nat)
    (hf : (∃ u0, f (n : Int) = some (.str ⟨[x].toArray⟩ u0) ∧ u0 ≠ 0 ∧ u0 < N) ∨ (f (n : Int) = none ∧ (placed (⟨[n].toArray⟩ : Str) fun i _ => Unicode.lowerAt [n].toArray i) = [x].toArray))
    {A : Around} {s : Shared} {Q E : Value → Shared → Prop} {t : Tok} (ao : AOk (k + 1) A) (T : Top c s.heap) (hN : N ≤ s.toks) (hN0 : 0 < N)
    (h : ∀ u h' tk, Kp s.heap h' → u ≠ 0 → u < tk → N ≤ tk → Q (.str ⟨[x].toArray⟩ u) { s with heap := h', toks := tk }) : wpAny (MM c) A (call (.ref 160) [.str ⟨[n].toArray⟩ t]) Q E s := by
  refine P.map3F.raw (O := fun _ => False) (ds := [.str [n]]) rfl ao T (fun a ha => ha.elim) (.cons (.str [n] t) .nil) hN fun cd h₁ tk ao' F hN1 hns => ?_
  have F : FS _ s.heap (fun _ => False) [("code", .val (.str [n]))] h₁ := F
  refine wpAny_execs_cons (wpAny_Assign_Name (wpAny_with_toks (n := N) hN1 (dictGetRaw (k := k) (i := (n : Int)) (O := OwnO (fun _ => False) [("code", .val (.str [n]))]) (ρ := [("code", .val (.str [n]))]) ?_ (by walk_at "kind") P.gb3 hD (by decide) ao' (F.top T) F.fr fun h1 t1 k1 hN2 => ?_)) rfl)
  · exact EV.callBi P.bord CALL.ord (EVs.cons (by walk_at "ev") EVs.nil) (by walk_at "kind")
  have hN2 : N ≤ t1 := hN2
  have k1 : Kp h₁ h1 := k1
  rcases hf with ⟨u0, hf, hu0, hu1⟩ | ⟨hf, hlow⟩
  · rw [hf]
    refine F.storeX (s := { s with heap := h1, toks := t1 }) (d := .str [x]) k1 (by walk_at "kind") (.str [x] u0) fun h2 t2 m ht2 F2 hn2 hm2 => ?_
    have ht2 : t1 ≤ t2 := ht2
    refine wpAny_execs_cons (wpAny_If (wpAny_with_toks (n := N) (Nat.le_trans hN2 ht2) ((EB.cmp (k := k) (dl := .str [x]) (ρ := setV [("code", .val (.str [n]))] "r" (.val (.str [x]))) (by walk_at "set1"; walk_at "ev") EV.noneC CMP.isNotNone).run _ { s with heap := h2, toks := t2 } _ _ ao' (F2.top T) F2.fr fun h3 t3 k3 hN3 => ?_)))
    have k3 : Kp h2 h3 := k3
    have hN3 : N ≤ t3 := hN3
    refine wpAny_execs_cons (wpAny_Return_some (wpAny_Name (wpAny_loadName_local P.map3F.kind (by walk_at "kind") (hn2.keeps k3) hm2 ?_) (by decide +kernel)))
    exact h u0 h3 t3 ((F2.kp k3).keep) hu0 (Nat.lt_of_lt_of_le hu1 hN3) hN3
  · rw [hf]
    refine F.storeX (s := { s with heap := h1, toks := t1 }) (d := .none) k1 (by walk_at "kind") .none fun h2 t2 m ht2 F2 hn2 hm2 => ?_
    have ht2 : t1 ≤ t2 := ht2
    refine wpAny_execs_cons (wpAny_If (wpAny_with_toks (n := N) (Nat.le_trans hN2 ht2) ((EB.cmp (k := k) (dl := .none) (ρ := setV [("code", .val (.str [n]))] "r" (.val .none)) (by walk_at "set1"; walk_at "ev") EV.noneC CMP.isNotNone).run _ { s with heap := h2, toks := t2 } _ _ ao' (F2.top T) F2.fr fun h3 t3 k3 hN3 => ?_)))
    have k3 : Kp h2 h3 := k3
    have hN3 : N ≤ t3 := hN3
    refine wpAny_execs_nil ?_
    refine wpAny_execs_cons (wpAny_Return_some (lowerRaw (k := k) (l := [n]) (r := [x]) (O := OwnO (fun _ => False) (setV [("code", .val (.str [n]))] "r" (.val .none))) (ρ := setV [("code", .val (.str [n]))] "r" (.val .none)) (by walk_at "set1"; walk_at "ev") ao' ((F2.kp k3).top T) (F2.kp k3).fr hlow (by simp) fun h4 t4 k4 ht4 => ?_))
    have k4 : Kp h3 h4 := k4
    have ht4 : t3 ≤ t4 := ht4
    exact h t4 h4 (t4 + 1) (((F2.kp k3).kp k4).keep) (by omega) (by omega) (by omega)
end Mine
end
section -- F11
open PySem PySem.W PyProof.Rows PySem.Calls
set_option Elab.async false
set_option linter.all false
set_option maxRecDepth 100000
namespace Mine
variable {c : Cx} {k N : Nat}
theorem index_raw (P : PG c) (hB : ∀ h, Top c h → NoneBooked h) (cs : List Nat) (x i₀ : Nat) (hasc : (⟨cs.toArray⟩ : Str).cps.all (· < 128) = true) (hi : cs[i₀]? = some x) (hfirst : ∀ j, j < i₀ → cs[j]? ≠ some x) (hlen : cs.length ≤ 1000)
    {A : Around} {s : Shared} {Q E : Value → Shared → Prop} {t u : Tok} (ao : AOk (k + 1) A) (T : Top c s.heap) (hu0 : u ≠ 0) (hu : u < s.toks) (hN : N ≤ s.toks)
    (h : ∀ h' tk t', Kp s.heap h' → Q (.int i₀ t') { s with heap := h', toks := tk }) : wpAny (MM c) A (call (.ref 72) [.str ⟨cs.toArray⟩ t, .str ⟨[x].toArray⟩ u]) Q E s := by
  refine P.indexF.raw (N := u + 1) (O := fun _ => False) (ds := [.str cs, .str [x]]) rfl ao T (fun a ha => ha.elim) (.cons (.str cs t) (.cons (.str [x] u) .nil)) hu fun cd h₁ tk ao' F hN1 hns => ?_
  have va : bindL (envOfC "indexOf" (scopeAt 8) s.heap.objs.size 72 cd).kindOf ([("a" : Str), "b"].zip [.str ⟨cs.toArray⟩ t, .str ⟨[x].toArray⟩ u]) (fun _ => none) "a" = some (.str ⟨cs.toArray⟩ t) := bindL_mem (show ([("a" : Str), "b"] : List Str).Nodup from P.indexF.nd) (by simp) (by walk_at "kind")
  have vb : bindL (envOfC "indexOf" (scopeAt 8) s.heap.objs.size 72 cd).kindOf ([("a" : Str), "b"].zip [.str ⟨cs.toArray⟩ t, .str ⟨[x].toArray⟩ u]) (fun _ => none) "b" = some (.str ⟨[x].toArray⟩ u) := bindL_mem (show ([("a" : Str), "b"] : List Str).Nodup from P.indexF.nd) (by simp) (by walk_at "kind")
  generalize bindL (envOfC "indexOf" (scopeAt 8) s.heap.objs.size 72 cd).kindOf ([("a" : Str), "b"].zip [.str ⟨cs.toArray⟩ t, .str ⟨[x].toArray⟩ u]) (fun _ => none) = m0 at hns va vb
  have F : FS (envOfC "indexOf" (scopeAt 8) s.heap.objs.size 72 cd) s.heap (fun _ => False) [("a", .val (.str cs)), ("b", .val (.str [x]))] h₁ := F
  refine wpAny_execs_cons (wpAny_For ?_)
  refine Call_ (EV.builtinName (F.top T) F.fr (by walk_at "kind") P.benum.1 P.benum.2 ?_ (by decide +kernel)) rfl
  refine PyProof.Rows.callWith_type rfl (wpAny_with_toks (n := u + 1) hN1 (args_of (ds := [.str cs]) (EVs.cons (k := k) (by walk_at "ev") EVs.nil) rfl ao' (F.top T) F.fr fun vs h2 t2 k2 r2 hN2 => ?_))
  have hN2 : u + 1 ≤ t2 := hN2
  have k2 : Kp h₁ h2 := k2
  cases r2 with | cons r1 r2 =>
  cases r2
  cases r1 with | str _ ta =>
  refine call_enumerate_str fun h3 he3 hit3 hz3 hk3 => ?_
  have hk3 : Kp h2 h3 := hk3
  have hty : strIterType (⟨cs.toArray⟩ : Str) = "str_ascii_iterator" := by unfold strIterType; rw [hasc]; rfl
  rw [hty] at hit3
  refine wpAny_pyIter_enum he3 ?_
  have hn2 := hns.keeps k2
  have hLt : s.heap.objs.size < h2.objs.size := hn2.lt
  have he3 : IsEnum h3 (h2.objs.size + 1) h2.objs.size 0 .none := he3
  have hit3 : h3.IsStrIter h2.objs.size "str_ascii_iterator" ⟨cs.toArray⟩ ta 0 := hit3
  have kps : Kp s.heap h2 := (F.kp k2).keep
  generalize hLL : s.heap.objs.size = L at *
  generalize hee : h2.objs.size + 1 = e at *
  generalize hii : h2.objs.size = it at *
  have n1 : e ≠ it := by omega
  have n2 : e ≠ L := by omega
  have n3 : it ≠ L := by omega
  refine codeAny_forLoop_any (fun m s' => ∃ j h' tk' m' old, s' = { s with heap := h', toks := tk' } ∧ j ≤ i₀ ∧ m = i₀ + 1 - j ∧ u + 1 ≤ tk' ∧ IsEnum h' e it ((j : Nat) : Int) old ∧ h'.IsStrIter it "str_ascii_iterator" ⟨cs.toArray⟩ ta j ∧ h'.Ns L m' ∧
      m' "b" = some (.str ⟨[x].toArray⟩ u) ∧ (∀ b o, b ≠ L → b ≠ e → b ≠ it → h2.get? b = some o → h'.get? b = some o)) ?_ (i₀ + 1) ⟨0, h3, t2, m0, .none, rfl, Nat.zero_le _, rfl, hN2, he3, hit3, hn2.keeps hk3, vb, fun b o _ _ _ q => hk3 b o q⟩
  rintro m s' ⟨j, hj, tk', mj, old, rfl, hji, rfl, hNj, ej, itj, nj, bj, kj⟩
  have hjl : j < cs.length := by have := (List.getElem?_eq_some_iff.mp hi).1; omega
  have hcj : (⟨cs.toArray⟩ : Str).cps[j]? = some cs[j] := by simp [hjl]
  refine enumNext ej itj hcj n1 fun h4 e4 it4 t4 z4 k4 => ?_
  have e4 : IsEnumOut h4 e it ((j : Int) + 1) (.str ⟨#[cs[j]]⟩ tk') hj.objs.size := e4
  have t4 : h4.get? hj.objs.size = some { cls := .type "tuple", data := .seq #[.int j (tk' + 1), .str ⟨#[cs[j]]⟩ tk'] } := t4
  have k4 : ∀ b o, b ≠ e → b ≠ it → hj.get? b = some o → h4.get? b = some o := k4
  have tne : hj.objs.size ≠ e := Nat.ne_of_gt (Heap.lt_size ej)
  refine wpAny_letOwnedTupleGo_enum e4 fun h5 e5 b5 => ?_
  have b5 : Heap.SameBut e h4 h5 := b5
  have t5 : IsTup h5 hj.objs.size #[.int j (tk' + 1), .str ⟨#[cs[j]]⟩ tk'] := ⟨_, b5.extBut _ _ tne t4, rfl, _, rfl⟩
  refine assign_Tuple_tuple ao'.handled t5 rfl rfl fun h6 x6 => ?_
  have x6 : ∀ b o, b ≠ h5.objs.size → h5.get? b = some o → h6.get? b = some o := x6
  have k6 : ∀ b o, b ≠ e → b ≠ it → hj.get? b = some o → h6.get? b = some o := fun b o q1 q2 q => by
    have q5 := b5.extBut b o q1 (k4 b o q1 q2 q)
    exact x6 b o (Nat.ne_of_lt (Heap.lt_size q5)) q5
  have e6 : IsEnum h6 e it ((j : Int) + 1) (.str ⟨#[cs[j]]⟩ tk') := x6 _ _ (Nat.ne_of_lt (Heap.lt_size e5)) e5
  have it6 : h6.IsStrIter it "str_ascii_iterator" ⟨cs.toArray⟩ ta (j + 1) := by
    obtain ⟨o, q, r⟩ := it4
    have q5 := b5.extBut it o (Ne.symm n1) q
    exact ⟨o, x6 _ o (Nat.ne_of_lt (Heap.lt_size q5)) q5, r⟩
  have n6 : h6.Ns L mj := by
    obtain ⟨o, es, ep, q, r⟩ := nj
    exact ⟨o, es, ep, k6 _ o (Ne.symm n2) (Ne.symm n3) q, r⟩
  have hkd : ((envOfC "indexOf" (scopeAt 8) L 72 cd).scope.kind == .class || ((envOfC "indexOf" (scopeAt 8) L 72 cd).scope.kind == .module && (envOfC "indexOf" (scopeAt 8) L 72 cd).locals != (envOfC "indexOf" (scopeAt 8) L 72 cd).globals)) = false := by
    show ((scopeAt 8).kind == .class || ((scopeAt 8).kind == .module && _)) = false
    rw [P.indexF.kind]; rfl
  refine assignInOrder_cons (wpAny_assign_Name (wpAny_storeName_local (by walk_at "kind") n6 (fun h7 n7 b7 => ?_) hkd))
  have n7 : h7.Ns L _ := n7
  have b7 : Heap.SameBut L h6 h7 := b7
  refine assignInOrder_cons (wpAny_assign_Name (wpAny_storeName_local (by walk_at "kind") n7 (fun h8 n8 b8 => ?_) hkd))
  have n8 : h8.Ns L _ := n8
  have b8 : Heap.SameBut L h7 h8 := b8
  refine assignInOrder_nil ?_
  have k8 : ∀ b o, b ≠ L → b ≠ e → b ≠ it → h2.get? b = some o → h8.get? b = some o := fun b o q1 q2 q3 q => b8.extBut b o q1 (b7.extBut b o q1 (k6 b o q2 q3 (kj b o q1 q2 q3 q)))
  have kp8 : Kp s.heap h8 := fun b o q => by
    have q1 : b < L := hLL ▸ Heap.lt_size q
    have lti : L < it := by omega
    have lte : L < e := by omega
    exact k8 b o (Nat.ne_of_lt q1) (Nat.ne_of_lt (Nat.lt_trans q1 lte)) (Nat.ne_of_lt (Nat.lt_trans q1 lti)) (kps b o q)
  have e8 : IsEnum h8 e it ((j : Int) + 1) (.str ⟨#[cs[j]]⟩ tk') := b8.extBut _ _ n2 (b7.extBut _ _ n2 e6)
  have it8 : h8.IsStrIter it "str_ascii_iterator" ⟨cs.toArray⟩ ta (j + 1) := let ⟨o, q, r⟩ := it6; ⟨o, b8.extBut _ o n3 (b7.extBut _ o n3 q), r⟩
  have T8 := T.kp kp8
  have ko : ∀ v w (y : Str), (fun y => if y = ("j" : Str) then some v else if y = ("i" : Str) then some w else mj y) y = (if y = ("j" : Str) then some v else if y = ("i" : Str) then some w else mj y) := fun _ _ _ => rfl
  have v8j : (fun y => if y = ("j" : Str) then some (Value.str ⟨#[cs[j]]⟩ tk') else if y = ("i" : Str) then some (Value.int (j : Int) (tk' + 1)) else mj y) "j" = some (.str ⟨#[cs[j]]⟩ tk') := by rw [ko, if_pos rfl]
  have v8i : (fun y => if y = ("j" : Str) then some (Value.str ⟨#[cs[j]]⟩ tk') else if y = ("i" : Str) then some (Value.int (j : Int) (tk' + 1)) else mj y) "i" = some (.int (j : Int) (tk' + 1)) := by
    rw [ko, if_neg (by decide +kernel), if_pos rfl]
  have v8b : (fun y => if y = ("j" : Str) then some (Value.str ⟨#[cs[j]]⟩ tk') else if y = ("i" : Str) then some (Value.int (j : Int) (tk' + 1)) else mj y) "b" = some (.str ⟨[x].toArray⟩ u) := by
    rw [ko, if_neg (by decide +kernel), if_neg (by decide +kernel)]; exact bj
  have n8 : h8.Ns L (fun y => if y = ("j" : Str) then some (Value.str ⟨#[cs[j]]⟩ tk') else if y = ("i" : Str) then some (Value.int (j : Int) (tk' + 1)) else mj y) := n8
  generalize (fun y => if y = ("j" : Str) then some (Value.str ⟨#[cs[j]]⟩ tk') else if y = ("i" : Str) then some (Value.int (j : Int) (tk' + 1)) else mj y) = m8 at n8 v8j v8i v8b
  have hz0 : (tk' == 0 || u == 0) = false := by
    have q1 : (tk' == 0) = false := beq_eq_false_iff_ne.mpr (Nat.ne_of_gt (Nat.lt_of_lt_of_le (Nat.succ_pos u) hNj))
    have q2 : (u == 0) = false := by simpa using hu0
    rw [q1, q2]; rfl
  have nameJ : ∀ (p : Pos) (s9 : Shared) (Q9 : Value → Shared → Prop) (E9 : Value → Shared → Prop), s9.heap = h8 → Q9 (.str ⟨#[cs[j]]⟩ tk') s9 → wpAny (MM c) (A.deeper (envOfC "indexOf" (scopeAt 8) L 72 cd)) (eval (.Name "j" p) (envOfC "indexOf" (scopeAt 8) L 72 cd)) Q9 E9 s9 := fun p s9 Q9 E9 hs9 hq => wpAny_Name (wpAny_loadName_local P.indexF.kind (by walk_at "kind") (hs9 ▸ n8) v8j hq) (by decide +kernel)
  have nameB : ∀ (p : Pos) (s9 : Shared) (Q9 : Value → Shared → Prop) (E9 : Value → Shared → Prop), s9.heap = h8 → Q9 (.str ⟨[x].toArray⟩ u) s9 → wpAny (MM c) (A.deeper (envOfC "indexOf" (scopeAt 8) L 72 cd)) (eval (.Name "b" p) (envOfC "indexOf" (scopeAt 8) L 72 cd)) Q9 E9 s9 := fun p s9 Q9 E9 hs9 hq => wpAny_Name (wpAny_loadName_local P.indexF.kind (by walk_at "kind") (hs9 ▸ n8) v8b hq) (by decide +kernel)
  refine wpAny_execs_cons (wpAny_If (wpAny_isTrue_BoolOp (wpAny_allTrue_Or_cons (wpAny_isTrue_Compare1 (nameJ _ _ _ _ rfl (nameB _ _ _ _ rfl ?_)) rfl))))
  by_cases hjx : cs[j] = x
  · have hji0 : j = i₀ := by
      apply Classical.byContradiction
      intro q
      exact hfirst j (by omega) (by rw [List.getElem?_eq_getElem hjl, hjx])
    show wpAny _ _ (isSame _ _ >>= _) _ _ _
    refine wpAny_bind (wpAny_isSame_str hz0 (hB _ T8) fun bb => ?_)
    refine wpAny_pure (wpAny_truthy_bool ?_)
    cases bb with
    | true =>
      refine wpAny_execs_cons (wpAny_Return_some (wpAny_Name (wpAny_loadName_local P.indexF.kind (by walk_at "kind") n8 v8i ?_) (by decide +kernel)))
      rw [← hji0] at h
      exact h h8 _ _ kp8
    | false =>
      refine wpAny_allTrue_Or_cons (wpAny_isTrue_Compare1 (nameJ _ _ _ _ rfl (nameB _ _ _ _ rfl ?_)) rfl)
      refine PyProof.Rows.eq_str (wpAny_truthy_bool ?_)
      have hb1 : ((⟨#[cs[j]]⟩ : Str) == ⟨[x].toArray⟩) = true := by rw [hjx]; simp
      rw [hb1]
      refine wpAny_execs_cons (wpAny_Return_some (wpAny_Name (wpAny_loadName_local P.indexF.kind (by walk_at "kind") n8 v8i ?_) (by decide +kernel)))
      rw [← hji0] at h
      exact h h8 _ _ kp8
  · have hb0 : ((⟨#[cs[j]]⟩ : Str) == ⟨[x].toArray⟩) = false := by
      apply beq_eq_false_iff_ne.mpr
      intro q
      have : (#[cs[j]] : Array Nat) = [x].toArray := congrArg Str.cps q
      simp at this
      exact hjx this
    have hju : (tk' == u) = false := beq_eq_false_iff_ne.mpr (Nat.ne_of_gt (Nat.lt_of_succ_le hNj))
    show wpAny _ _ (isSame _ _ >>= _) _ _ _
    refine wpAny_bind (wpAny_of_eq (isSame_str_other _ _ _ _ hz0 hju hb0) ?_)
    refine wpAny_pure (wpAny_truthy_bool ?_)
    refine wpAny_allTrue_Or_cons (wpAny_isTrue_Compare1 (nameJ _ _ _ _ rfl (nameB _ _ _ _ rfl ?_)) rfl)
    refine PyProof.Rows.eq_str (wpAny_truthy_bool ?_)
    rw [hb0]
    refine wpAny_allTrue_Or_nil ?_
    refine wpAny_execs_nil (wpAny_execs_nil ?_)
    have hlt : j < i₀ := by
      rcases Nat.lt_or_eq_of_le hji with q | q
      · exact q
      · subst q
        rw [List.getElem?_eq_getElem hjl] at hi
        exact absurd (Option.some.inj hi) hjx
    exact ⟨i₀ + 1 - (j + 1), by omega, j + 1, h8, _, m8, _, rfl, hlt, rfl, Nat.le_trans hNj (Nat.le_add_right tk' 4), e8, it8, n8, v8b, k8⟩
end Mine
end
section -- F12
open PySem PySem.W PyProof.Rows PySem.Calls
set_option Elab.async false
set_option linter.all false
set_option maxRecDepth 100000
namespace Mine
variable {c : Cx} {k N : Nat}
theorem ITER.strA {O : Addr → Prop} {l : List Nat} : ITER c k O (.str l) (l.map fun x => .str [x]) := by
  refine .mk ?_
  intro A s Q E v ao T ob r h
  cases r with
  | str _ t =>
  refine wpAny_pyIter_strU ?_
  have hn : (⟨l.toArray⟩ : Str).cps.size = (l.map fun x => D.str [x]).length := by simp
  have hP : ∀ (i : Nat) (v : Value), SignAt ⟨l.toArray⟩ i v → ∃ d, (l.map fun x => D.str [x])[i]? = some d ∧ Sc v d := fun i v hv => by
    obtain ⟨cc, u, e, rfl⟩ := hv
    exact ⟨.str [cc], by simpa using congrArg (Option.map fun x => D.str [x]) e, .str ..⟩
  cases ha : (⟨l.toArray⟩ : Str).cps.all (· < 128) with
  | true =>
    have hty : strIterType (⟨l.toArray⟩ : Str) = "str_ascii_iterator" := by unfold strIterType; rw [ha]; rfl
    rw [hty]
    have W := Walks.strAscii (prog := PySem.Challenge.pw_wj0045_01) (w := c.w) (A := A) ao.handled s.heap.objs.size ⟨l.toArray⟩ t
    rw [hn] at W
    refine h _ _ _ _ _ _ _ Kp.push W ⟨_, Heap.get?_push_size _ rfl, rfl, rfl⟩ (fun a ha => ?_) (fun a ha => ?_) (fun i h st a ha => ?_) hP
    · obtain rfl := List.mem_singleton.mp ha
      exact ⟨_, Heap.get?_push_size _ rfl, by simp, by simp, by simp⟩
    · obtain rfl := List.mem_singleton.mp ha
      exact Nat.le_refl _
    · obtain rfl := List.mem_singleton.mp ha
      obtain ⟨o, e, hc, hd⟩ := st
      exact ⟨o, e, by simp [Listy, hc], by simp [hd], by simp [hd]⟩
  | false =>
    have hty : strIterType (⟨l.toArray⟩ : Str) = "str_iterator" := by unfold strIterType; rw [ha]; rfl
    rw [hty]
    have W := Walks.strWide (prog := PySem.Challenge.pw_wj0045_01) (w := c.w) (A := A) ao.handled s.heap.objs.size ⟨l.toArray⟩ t
    rw [hn] at W
    refine h _ _ _ _ _ _ _ Kp.push W ⟨_, Heap.get?_push_size _ rfl, rfl, rfl⟩ (fun a ha => ?_) (fun a ha => ?_) (fun i h st a ha => ?_) hP
    · obtain rfl := List.mem_singleton.mp ha
      exact ⟨_, Heap.get?_push_size _ rfl, by simp, by simp, by simp⟩
    · obtain rfl := List.mem_singleton.mp ha
      exact Nat.le_refl _
    · obtain rfl := List.mem_singleton.mp ha
      obtain ⟨o, e, hc, hd⟩ := st
      exact ⟨o, e, by simp [Listy, hc], by simp [hd], by simp [hd]⟩
theorem in1_call (P : PG c) {S : Int → Bool} {m : Nat} (hS : ∀ h, Top c h → h.SetOf (intKind PySem.Challenge.pw_wj0045_01 c.w) 104 S m) (n : Nat) : CALL c (k + 1) (.ref 114) [.str [n]] (.bool (S (n : Int))) := by
  refine P.in1F.enter rfl fun O₀ L cd => ?_
  refine XS.cast (ρ₁ := [("code", .val (.str [n]))]) rfl ?_
  refine XS.ret (by walk_at "frz") ?_
  exact EV.inSet (i := (n : Int)) (EV.callBi P.bord CALL.ord (EVs.cons (by walk_at "ev") EVs.nil) (by walk_at "kind")) (by walk_at "kind") P.gb1 hS
end Mine
end
section -- F13
open PySem PySem.W PyProof.Rows PySem.Calls
set_option Elab.async false
set_option linter.all false
set_option maxRecDepth 100000
namespace Mine
variable {c : Cx} {k N : Nat}
theorem EVn.look {env : Env} {O : Addr → Prop} {ρ : List (Str × Ent)} {p1 p2 p3 p4 p5 : Pos} {n0 : Nat} {e : Expr} {S : Str} (P : PG c) (hB : ∀ h, Top c h → NoneBooked h) {f : Int → Option Value} (hD : ∀ h, Top c h → h.MapOf (intKind PySem.Challenge.pw_wj0045_01 c.w) 115 f)
    (cs : List Nat) (n x i₀ : Nat) (hS : S = ⟨cs.toArray⟩) (hasc : (⟨cs.toArray⟩ : Str).cps.all (· < 128) = true) (hi : cs[i₀]? = some x) (hfirst : ∀ j, j < i₀ → cs[j]? ≠ some x) (hlen : cs.length ≤ 1000)
    (hf : (∃ u0, f (n : Int) = some (.str ⟨[x].toArray⟩ u0) ∧ u0 ≠ 0 ∧ u0 < N) ∨ (f (n : Int) = none ∧ (placed (⟨[n].toArray⟩ : Str) fun i _ => Unicode.lowerAt [n].toArray i) = [x].toArray)) (hN0 : 0 < N)
    (he : EV c (k + 1) env O ρ e (.str [n])) (hx1 : env.kindOf "indexOf" = some .globalImplicit) (hx2 : env.kindOf "map_table_b3" = some .globalImplicit)
    (hs0 : starEach [.Constant (.str S) n0 p2, .Call (.Name "map_table_b3" p3) [e] [] p4] env = [(false, eval (.Constant (.str S) n0 p2) env), (false, eval (.Call (.Name "map_table_b3" p3) [e] [] p4) env)] := by rfl)
    (hs1 : starEach [.Call (.Name "map_table_b3" p3) [e] [] p4] env = [(false, eval (.Call (.Name "map_table_b3" p3) [e] [] p4) env)] := by rfl) (hs2 : starEach [e] env = [(false, eval e env)] := by rfl)
    (he1 : eval (.Call (.Name "indexOf" p1) [.Constant (.str S) n0 p2, .Call (.Name "map_table_b3" p3) [e] [] p4] [] p5) env = (do callWith p5 (← eval (.Name "indexOf" p1) env) [] (backTo p5 (starEach [.Constant (.str S) n0 p2, .Call (.Name "map_table_b3" p3) [e] [] p4] env)) (backToKw p5 (keywordEach [] env))) := by rfl)
    (he2 : eval (.Call (.Name "map_table_b3" p3) [e] [] p4) env = (do callWith p4 (← eval (.Name "map_table_b3" p3) env) [] (backTo p4 (starEach [e] env)) (backToKw p4 (keywordEach [] env))) := by rfl) :
    EVn N c (k + 1) env O ρ (.Call (.Name "indexOf" p1) [.Constant (.str S) n0 p2, .Call (.Name "map_table_b3" p3) [e] [] p4] [] p5) (.int i₀) := by
  obtain ⟨o1, q1, q2, q3, q4, hK1, hd1, _⟩ := P.indexF.def_
  obtain ⟨o2, r1, r2, r3, r4, hK2, hd2, _⟩ := P.map3F.def_
  refine .mk ?_
  intro A s Q E ao T F hN h
  refine Call_ (EV.globalName T F hx1 P.gindex ?_ (by decide +kernel)) he1
  refine callWith_function (o := o1) (fd := docDef "indexOf" q1 (bodyAt 8) (scopeAt 8) q2 q3 q4) ?_
  have z : wpAny (MM c) A (spliced (backTo p5 (starEach [.Constant (.str S) n0 p2, .Call (.Name "map_table_b3" p3) [e] [] p4] env))) (fun vs s' => ∃ u h' tk, vs = [.str S s.toks, .str ⟨[x].toArray⟩ u] ∧ s' = { s with heap := h', toks := tk } ∧ Kp s.heap h' ∧ u ≠ 0 ∧ u < tk ∧ N ≤ tk) E s := by
    refine wpAny_items_cons (wpAny_Constant_str ?_) (by rw [hs0, hs1])
    refine wpAny_items_cons ?_ (by rw [hs1]; rfl)
    refine Call_ (EV.globalName (s := { s with toks := s.toks + 1 }) T F hx2 P.gmap3 ?_ (by decide +kernel)) he2
    refine callWith_function (o := o2) (fd := docDef "map_table_b3" r1 (bodyAt 19) (scopeAt 19) r2 r3 r4) ?_
    have hN1 : N ≤ s.toks + 1 := Nat.le_succ_of_le hN
    refine wpAny_with_toks (s := { s with toks := s.toks + 1 }) (n := N) hN1 (args_of (ds := [.str [n]]) (EVs.cons he EVs.nil hs2) hs2 ao T F fun vs h1 t1 k1 rr hN2 => ?_)
    have hN2 : N ≤ t1 := hN2
    cases rr with | cons rr1 rr2 =>
    cases rr2
    cases rr1 with | str _ tn =>
    refine ⟨⟨(T.kp k1).k _ _ hK2, hd2⟩, ?_⟩
    refine map_raw P hD n x hf ao (T.kp k1) hN2 hN0 fun u h2 t2 k2 hu0 hu1 hN3 => ?_
    exact wpAny_items_nil ⟨u, h2, t2, rfl, rfl, Kp.trans k1 k2, hu0, hu1, hN3⟩
  rw [hs0] at z ⊢
  refine evalArgs_plain (wpAny_mono z (fun vs s' hq => ?_) fun _ _ e => e)
  obtain ⟨u, h2, t2, rfl, rfl, k2, hu0, hu1, hN3⟩ := hq
  refine ⟨⟨(T.kp k2).k _ _ hK1, hd1⟩, ?_⟩
  subst hS
  exact index_raw P hB cs x i₀ hasc hi hfirst hlen ao (T.kp k2) hu0 hu1 hN3 fun h3 t3 t' k3 => h _ h3 t3 (Kp.trans k2 k3) (.int ..)
end Mine
end
section -- F1
open PySem PySem.W PyProof.Rows PySem.Calls
set_option Elab.async false
set_option linter.all false
set_option maxRecDepth 100000
namespace Mine
variable {c : Cx} {k : Nat}
theorem gt_call (X : Fn c 58 "gt" ["a", "b"] (bodyAt 6) (scopeAt 6)) (a b : Int) : CALL c (k+1) (.ref 58) [.int a, .int b] (.bool (decide (b < a))) := by
  refine X.enter rfl fun O₀ L cd => ?_
  refine XS.cast (ρ₁ := [("a", .val (.int a)), ("b", .val (.int b))]) rfl ?_
  refine XS.ret (by walk_at "frz") (EV.cmp ?_ ?_ CMP.gt)
  all_goals walk_at "ev"
/-- the second word's step -/
noncomputable def pairOf (p q : Int) : List Int := if q < p then [q, p + 1] else if p + 1 < q then [q - 1, p] else [p, p + p + 1 - q]
noncomputable def stepOf (w : List Int) (v : Int) : List Int := w.take (v % 5).toNat ++ pairOf (w.getD (v % 5).toNat 0) (w.getD ((v % 5).toNat + 1) 0) ++ w.drop ((v % 5).toNat + 2)
noncomputable abbrev IL (l : List Int) : D := .list (l.map .int)
theorem pairOf_length (p q : Int) : (pairOf p q).length = 2 := by
  unfold pairOf
  split
  · rfl
  · split <;> rfl
theorem stepOf_length {w : List Int} (hw : w.length = 6) (v : Int) : (stepOf w v).length = 6 := by
  unfold stepOf
  have : (v % 5).toNat < 5 := by omega
  simp [pairOf_length, hw]
  omega
theorem steps_length : ∀ (l : List Int) {w : List Int}, w.length = 6 → (l.foldl stepOf w).length = 6
  | [], _, h => h
  | v :: r, _, h => steps_length r (stepOf_length h v)
theorem ints_get {l : List Int} {n : Nat} (h : n < l.length) : (l.map D.int)[n]? = some (.int (l.getD n 0)) := by
  rw [List.getElem?_map, List.getD_eq_getElem?_getD, List.getElem?_eq_getElem h]; rfl
theorem fold_take {α β : Type} (f : β → α → β) (b : β) (l : List α) (i : Nat) (a : α) (h : l[i]? = some a) : (l.take (i + 1)).foldl f b = f ((l.take i).foldl f b) a := by
  rw [List.take_succ, List.foldl_append, h]; rfl
theorem ints_flat {l : List Int} : ∀ d ∈ l.map D.int, d.flat = true := fun d hd => by
  obtain ⟨i, _, rfl⟩ := List.mem_map.mp hd; rfl
theorem second_call (X : Fn c 172 "_law_second" ["word", "cells"] (bodyAt 22) (scopeAt 22)) (w cells : List Int) (hw : w.length = 6) (hc : cells.length ≤ 100) (h0 : ∀ v ∈ cells, 0 ≤ v) :
    CALL c (k+1) (.ref 172) [IL w, IL cells] (IL (cells.foldl stepOf w)) := by
  refine X.enter rfl fun O₀ L cd => ?_
  refine XS.cast (ρ₁ := [("word", .val (IL w)), ("cells", .val (IL cells))]) rfl ?_
  refine XS.seq (ρ₁ := [("word", .val (IL (cells.foldl stepOf w))), ("cells", .val (IL cells))]) ?_ (XS.ret (by walk_at "frz") ?_)
  · refine (XT.for_ (dv := IL cells) (ds := cells.map .int) (fun i => [("word", .val (IL ((cells.take i).foldl stepOf w))), ("cells", .val (IL cells))]) ?_ (ITER.list ints_flat) ?_ rfl ?_).drop ?_
    · walk_at "ev"
    · walk_at "kind"
    · intro i d hd
      rw [List.getElem?_map] at hd
      obtain ⟨v, hv, rfl⟩ := Option.map_eq_some_iff.mp hd
      have hv0 := h0 v (List.mem_of_getElem? hv)
      rw [fold_take _ _ _ _ _ hv]
      generalize hW : (cells.take i).foldl stepOf w = W
      have hl : W.length = 6 := by rw [← hW]; exact steps_length _ hw
      have hm : v.fmod 5 = v % 5 := Int.fmod_eq_emod_of_nonneg v (by decide)
      have hk : (v % 5).toNat < 5 := by omega
      have hk0 : 0 ≤ v % 5 := by omega
      walk_at "set"
      refine XS.assign (d := .int (v.fmod 5)) ?_ (by walk_at "kind") ?_
      · refine EV.mod_int ?_ ?_ (by decide) <;> walk_at "ev"
      rw [hm]
      walk_at "set"
      refine XS.assign (d := .int (W.getD (v % 5).toNat 0)) ?_ (by walk_at "kind") ?_
      · refine EV.item (i := v % 5) (ds := W.map .int) ?_ ?_ hk0 (ints_get (by omega)) (by simp [hl]) <;> walk_at "ev"
      walk_at "set"
      refine XS.assign (d := .int (W.getD ((v % 5).toNat + 1) 0)) ?_ (by walk_at "kind") ?_
      · refine EV.item (i := v % 5 + 1) (ds := W.map .int) ?_ ?_ (by omega) (by rw [show (v % 5 + 1).toNat = (v % 5).toNat + 1 by omega]; exact ints_get (by omega)) (by simp [hl])
        · walk_at "ev"
        · repeat' walk_at "ev"
      walk_at "set"
      generalize hp : W.getD (v % 5).toNat 0 = p
      generalize hq : W.getD ((v % 5).toNat + 1) 0 = q
      refine XS.seq (ρ₁ := [("word", .val (IL W)), ("cells", .val (IL cells)), ("v", .val (.int v)), ("k", .val (.int (v % 5))), ("p", .val (.int p)), ("q", .val (.int q)), ("pair", .val (IL (pairOf p q)))]) ?_ ?_
      · refine XT.iff (b := decide (q < p)) (EB.cmp ?_ ?_ CMP.gt) (fun hb => ?_) (fun hb => ?_)
        · walk_at "ev"
        · walk_at "ev"
        · have hb : q < p := by simpa using hb
          refine XS.assign (d := IL [q, p + 1]) ?_ (by walk_at "kind") ?_
          · repeat' walk_at "ev"
          walk_at "set"
          rw [show pairOf p q = [q, p + 1] by simp [pairOf, hb]]
          exact XS.nil
        · have hb : ¬ q < p := by simpa using hb
          refine XS.seq (XT.iff (b := decide (p + 1 < q)) (EB.cmp ?_ ?_ CMP.gt) (fun hb2 => ?_) (fun hb2 => ?_)) XS.nil
          · walk_at "ev"
          · repeat' walk_at "ev"
          · have hb2 : p + 1 < q := by simpa using hb2
            refine XS.assign (d := IL [q - 1, p]) ?_ (by walk_at "kind") ?_
            · repeat' walk_at "ev"
            walk_at "set"
            rw [show pairOf p q = [q - 1, p] by simp [pairOf, hb, hb2]]
            exact XS.nil
          · have hb2 : ¬ p + 1 < q := by simpa using hb2
            refine XS.assign (d := IL [p, p + p + 1 - q]) ?_ (by walk_at "kind") ?_
            · repeat' walk_at "ev"
            walk_at "set"
            rw [show pairOf p q = [p, p + p + 1 - q] by simp [pairOf, hb, hb2]]
            exact XS.nil
      refine XS.assign (d := IL (stepOf W v)) ?_ (by walk_at "kind") ?_
      · have e1 : pickD (W.map .int) none (some ((v % 5).toNat : Int)) none = (W.take (v % 5).toNat).map .int := by rw [pickD_upto, List.map_take]
        have e2 : pickD (W.map .int) (some (((v % 5).toNat + 2 : Nat) : Int)) none none = (W.drop ((v % 5).toNat + 2)).map .int := by rw [pickD_from, List.map_drop]
        have e3 : IL (stepOf W v) = .list ((pickD (W.map .int) none (some (v % 5)) none ++ (pairOf p q).map .int) ++ pickD (W.map .int) (some (v % 5 + 2)) none none) := by
          have e : v % 5 = (((v % 5).toNat : Nat) : Int) := by omega
          have e' : v % 5 + 2 = (((v % 5).toNat + 2 : Nat) : Int) := by omega
          rw [e', e2, e, e1]
          simp only [Int.toNat_natCast]
          unfold stepOf
          rw [hp, hq]
          simp
        rw [e3]
        have hle : ∀ lo hi, (pickD (W.map .int) lo hi none).length ≤ 6 := fun lo hi => by rw [pickD_plain]; simp [hl]; omega
        have hle1 := hle none (some (v % 5))
        have hle2 := hle (some (v % 5 + 2)) none
        have hpl := pairOf_length p q
        refine EV.add_list (EV.add_list (EV.slice (lo := none) (hi := some (v % 5)) ?_ trivial (show EV c k _ _ _ _ _ from ?_) ?_) ?_ ?_) (EV.slice (lo := some (v % 5 + 2)) (hi := none) ?_ (show EV c k _ _ _ _ _ from ?_) trivial ?_) ?_
        · walk_at "ev"
        · walk_at "ev"
        · simp [hl]
        · walk_at "ev"
        · simp [hpl]; omega
        · walk_at "ev"
        · repeat' walk_at "ev"
        · simp [hl]
        · simp [hpl]; omega
      walk_at "set"
      exact XS.nilDrop (by walk_at "sub")
    · simp only [List.length_map, List.take_length]
      walk_at "sub"
  · walk_at "ev"
end Mine
end
section -- F3
open PySem PySem.W PyProof.Rows PySem.Calls
set_option Elab.async false
set_option linter.all false
set_option maxRecDepth 100000
namespace Mine
variable {c : Cx} {k : Nat}
noncomputable def toldL : List Int := [9, 15, 3, 11, 16, 26, 7, 6, 11]
noncomputable def addL (script : List Int) (k : Nat) : List Int := (pickA script (some (k : Int)) (some 18) (some 9)).map (· % 1000)
noncomputable def cellsOf (script : List Int) : List Int := (List.range 9).map fun k => toldL.getD k 0 + (addL script k).sum
theorem pickA_map {α β : Type} (f : α → β) (l : List α) (lo hi st : Option Int) : pickA (l.map f) lo hi st = (pickA l lo hi st).map f := by
  unfold pickA
  rw [List.length_map, List.map_filterMap]
  congr 1
  funext i
  rw [List.getElem?_map]
theorem pickA_len {α : Type} (l : List α) (lo hi st : Option Int) : (pickA l lo hi st).length ≤ l.length := by
  have h := slicePick_size_le (l.map fun _ => Value.none).toArray lo hi st
  have e : slicePick (l.map fun _ => Value.none).toArray lo hi st = (pickA (l.map fun _ => Value.none) lo hi st).toArray := by
    unfold slicePick pickA
    simp only [List.size_toArray, List.getElem?_toArray]
  rw [e, pickA_map] at h
  simpa using h
theorem cells_call (P : PG c) (script : List Int) (hz : script.length ≤ 63) : CALL c (k + 2) (.ref 165) [IL script] (IL (cellsOf script)) := by
  refine P.cellsF.enter rfl fun O₀ L cd => ?_
  refine XS.cast (ρ₁ := [("script", .val (IL script))]) rfl ?_
  refine XS.assign (d := IL toldL) ?_ (by walk_at "kind") ?_
  · repeat' walk_at "ev"
    decide
  walk_at "set"
  refine XS.ret (by walk_at "frz") ?_
  have e : IL (cellsOf script) = .list (((rangeL 0 9 1).filter fun _ => true).map fun d => .int (toldL.getD d.i.toNat 0 + (addL script d.i.toNat).sum)) := by
    rw [map_filter_true, show rangeL 0 9 1 = rangeL 0 (9 : Nat) 1 from rfl, rangeL_is]
    unfold cellsOf IL
    rw [List.map_map, List.map_map]
    rfl
  rw [e]
  refine EV.comp (ρ' := [("script", .val (IL script)), ("told", .val (IL toldL))]) (dv := .range 0 9 1) _ _ (CompOk.mk' (ns := ["script", "told"]) rfl (by walk_at "sub") (by decide +kernel) ?_) ?_ (ITER.range (by decide) (size_le 9)) (by decide) (fun C d hd => rfl) (fun C d hd _ => ?_) (fun d hd _ => rfl)
  · show ∀ x ∈ _, List.lookup x (scopeAt 21).names = _
    decide +kernel
  · exact EV.callTy P.brange CALL.range1 (EVs.cons (by walk_at "ev") EVs.nil) (by walk_at "kind")
  · obtain ⟨i, hi, rfl⟩ := rangeL_mem (n := 9) hd
    show EV c (k + 1) _ _ _ _ (.int (toldL.getD i 0 + (addL script i).sum))
    refine EV.add_int ?_ ?_
    · refine EV.item (i := (i : Int)) (ds := toldL.map .int) ?_ ?_ (by omega) (by rw [Int.toNat_natCast]; exact ints_get hi) (by decide)
      · walk_at "ev"
      · walk_at "ev"
    · refine EV.callBi P.bsum CALL.sum (EVs.cons ?_ EVs.nil) (by walk_at "kind")
      have hpk : (pickD (script.map .int) (some (i : Int)) (some 18) (some 9)) = (pickA script (some (i : Int)) (some 18) (some 9)).map .int := pickD_map _ _ _ _ _
      have e2 : D.list ((addL script i).map .int) = .list (((pickD (script.map .int) (some (i : Int)) (some 18) (some 9)).filter fun _ => true).map fun d => .int (d.i % 1000)) := by
        rw [map_filter_true, hpk, addL, List.map_map, List.map_map]
        rfl
      rw [e2]
      have hfl : ∀ d ∈ pickD (script.map .int) (some (i : Int)) (some 18) (some 9), ∃ z, d = .int z := fun d hd => by
        rw [hpk] at hd
        obtain ⟨z, _, rfl⟩ := List.mem_map.mp hd
        exact ⟨z, rfl⟩
      refine EV.comp (ρ' := []) _ _ (CompOk.mk' (ns := []) rfl (by walk_at "sub") (by decide +kernel) (fun x hx => nomatch hx)) (EV.sliceStep (lo := some (i : Int)) (hi := some 18) (i := 9) ?_ (show EV c (k + 1) _ _ _ _ _ from ?_) (show EV c (k + 1) _ _ _ _ _ from ?_) ?_ (by decide) (by simp; omega)) (ITER.list fun d hd => ?_) ?_ (fun C d hd => rfl) (fun C d hd _ => ?_) (fun d hd _ => rfl)
      · walk_at "ev"
      · walk_at "ev"
      · walk_at "ev"
      · walk_at "ev"
      · obtain ⟨z, rfl⟩ := hfl d hd; rfl
      · rw [hpk, List.length_map]
        have := pickA_len script (some (i : Int)) (some 18) (some 9)
        omega
      · obtain ⟨z, rfl⟩ := hfl d hd
        show EV c (k + 1) _ _ _ _ (.int (z % 1000))
        refine EV.mod' ?_ ?_ (by decide) <;> walk_at "ev"

theorem count_call (P : PG c) (bs : List Bool) : CALL c (k + 1) (.ref 65) [.list (bs.map .bool), .bool true] (.int (bs.count true : Nat)) := by
  refine P.countF.enter rfl fun O₀ L cd => ?_
  refine XS.cast (ρ₁ := [("a", .val (.list (bs.map .bool))), ("b", .val (.bool true))]) rfl ?_
  refine XS.assign (d := .int 0) (by walk_at "ev") (by walk_at "kind") ?_
  walk_at "set"
  refine XS.seq (ρ₁ := [("b", .val (.bool true)), ("count", .val (.int (bs.count true : Nat)))]) ?_ (XS.ret (by walk_at "frz") (by walk_at "ev"))
  refine (XT.for_ (dv := .list (bs.map .bool)) (ds := bs.map .bool) (fun i => [("a", .val (.list (bs.map .bool))), ("b", .val (.bool true)), ("count", .val (.int ((bs.take i).count true : Nat)))]) ?_ (ITER.list ?_) ?_ rfl ?_).drop ?_
  · walk_at "ev"
  · intro d hd
    obtain ⟨z, _, rfl⟩ := List.mem_map.mp hd; rfl
  · walk_at "kind"
  · intro i d hd
    rw [List.getElem?_map] at hd
    obtain ⟨b, hb, rfl⟩ := Option.map_eq_some_iff.mp hd
    walk_at "set"
    refine XS.seq (ρ₁ := [("a", .val (.list (bs.map .bool))), ("b", .val (.bool true)), ("count", .val (.int ((bs.take (i + 1)).count true : Nat)))]) ?_ XS.nil
    refine XT.iff (b := (b == true) || (b == true)) (EB.or (EB.cmp ?_ ?_ CMP.isBool) fun _ => EB.cmp ?_ ?_ CMP.eqBool) (fun h => ?_) (fun h => ?_)
    · walk_at "ev"
    · walk_at "ev"
    · walk_at "ev"
    · walk_at "ev"
    · have hb' : b = true := by simpa using h
      subst hb'
      refine XS.seq (XT.augInt (a := ((bs.take i).count true : Nat)) (b := 1) ?_ ?_ ?_) ?_
      · walk_at "mem"
      · walk_at "ev"
      · walk_at "kind"
      walk_at "set"
      refine XS.nilDrop ?_
      rw [List.take_succ, hb, List.count_append, show (((bs.take i).count true + (some true).toList.count true : Nat) : Int) = ((bs.take i).count true : Nat) + 1 from rfl]
      walk_at "sub"
    · have hb' : b = false := by simpa using h
      subst hb'
      refine XS.nilDrop ?_
      rw [List.take_succ, hb, List.count_append, show (bs.take i).count true + (some false).toList.count true = (bs.take i).count true from rfl]
      walk_at "sub"
  · simp only [List.length_map, List.take_length]
    walk_at "sub"
end Mine
end
section -- F4
open PySem PySem.W PyProof.Rows PySem.Calls
set_option Elab.async false
set_option linter.all false
set_option maxRecDepth 100000
namespace Mine
variable {c : Cx} {k : Nat}
noncomputable def fallsOf (L : List Int) : List Nat := (List.range 5).filter fun k => decide (L.getD (k + 1) 0 < L.getD k 0)
noncomputable def placeOf (cells : List Int) (s : Nat) (L : List Int) : Nat := (fallsOf L).getD (cells.getD (s % 9) 0 % ((fallsOf L).length : Int)).toNat 0
noncomputable def fallAt (L : List Int) (p : Nat) : List Int := (L.set p (L.getD (p + 1) 0)).set (p + 1) (L.getD p 0 + 1)
noncomputable def setl (cells : List Int) (w : List Int) : Nat → List Int
  | 0 => w
  | i + 1 => fallAt (setl cells w i) (placeOf cells i (setl cells w i))
theorem setl_length {cells w : List Int} (hw : w.length = 6) : ∀ i, (setl cells w i).length = 6
  | 0 => hw
  | i + 1 => by unfold setl fallAt; simp [setl_length hw i]
theorem fallsOf_lt {L : List Int} {p : Nat} (h : p ∈ fallsOf L) : p < 5 := by
  unfold fallsOf at h
  exact List.mem_range.mp (List.mem_filter.mp h).1
theorem placeOf_mem {cells L : List Int} {s : Nat} (h : fallsOf L ≠ []) : placeOf cells s L ∈ fallsOf L := by
  unfold placeOf
  have hl : 0 < (fallsOf L).length := List.length_pos_iff.mpr h
  have : (cells.getD (s % 9) 0 % ((fallsOf L).length : Int)).toNat < (fallsOf L).length := by
    have h1 := Int.emod_lt_of_pos (cells.getD (s % 9) 0) (b := ((fallsOf L).length : Int)) (by omega)
    have h2 := Int.emod_nonneg (cells.getD (s % 9) 0) (b := ((fallsOf L).length : Int)) (by omega)
    omega
  rw [List.getD_eq_getElem?_getD, List.getElem?_eq_getElem this]
  exact List.getElem_mem this
noncomputable abbrev NL (l : List Nat) : D := IL (l.map fun (n : Nat) => (n : Int))
theorem settled_call (P : PG c) (w cells : List Int) (hw : w.length = 6) (hc : cells.length = 9) (n : Nat) (hn : ∀ i, i < n → fallsOf (setl cells w i) ≠ []) (he : fallsOf (setl cells w n) = []) :
    CALL c (k + 5) (.ref 205) [IL w, IL cells] (.tup [IL (setl cells w n), .int n]) := by
  refine P.settledF.enter rfl fun O₀ L cd => ?_
  refine XS.cast (ρ₁ := [("word", .val (IL w)), ("cells", .val (IL cells))]) rfl ?_
  refine XS.assignOwn (ds := w.map .int) ?_ (by walk_at "kind") ints_flat fun a => ?_
  · exact EVnew.listOf (by walk_at "ev") (by simp [hw]) P.blist.1 P.blist.2 (by walk_at "kind")
  walk_at "set"
  refine XS.assign (d := .int 0) (by walk_at "ev") (by walk_at "kind") ?_
  walk_at "set"
  refine XS.stop ?_
  refine XT.while_ (fun i => [("word", .val (IL w)), ("cells", .val (IL cells)), ("left", .own a ((setl cells w i).map .int)), ("steps", .val (.int (i : Nat)))]) n rfl (fun i hi => ⟨EB.val EV.boolC, ?_⟩) (.inr ⟨_, EB.val EV.boolC, ?_, rfl⟩)
  · have hne := hn i hi
    have hpm := placeOf_mem (cells := cells) (s := i) hne
    show XS c (k + 4) _ _ _ _ (.next [_, _, ("left", .own a ((fallAt (setl cells w i) (placeOf cells i (setl cells w i))).map .int)), _])
    have hW := setl_length (cells := cells) hw i
    generalize setl cells w i = W at *
    have hfl : (fallsOf W).length ≤ 5 := by
      unfold fallsOf
      exact Nat.le_trans (List.length_filter_le _ _) (by simp)
    have hf0 : 0 < (fallsOf W).length := List.length_pos_iff.mpr hne
    have hp5 := fallsOf_lt hpm
    refine XS.seq (ρ₁ := setV [("word", .val (IL w)), ("cells", .val (IL cells)), ("left", .own a (W.map .int)), ("steps", .val (.int (i : Nat)))] "falls" (.val (NL (fallsOf W)))) ?_ ?_
    · have e0 : NL (fallsOf W) = .list (((rangeL 0 5 1).filter fun d => decide (W.getD (d.i.toNat + 1) 0 < W.getD d.i.toNat 0)).map fun d => d) := by
        rw [List.map_id', show rangeL 0 5 1 = rangeL 0 (5 : Nat) 1 from rfl, rangeL_is, List.filter_map]
        unfold NL IL fallsOf
        rw [List.map_map]
        rfl
      rw [e0]
      refine XT.assignComp (ρ' := [("left", .own a (W.map .int))]) (dv := .range 0 5 1) _ _ rfl (CompOk.mk' (ns := ["left"]) rfl (by walk_at "sub") (by decide +kernel) ?_) (by walk_at "kind") ?_ (ITER.range (by decide) (size_le 5)) (by decide) (fun C d hd => ?_) (fun C d hd _ => ?_) (fun d hd _ => ?_)
      · show ∀ x ∈ _, List.lookup x (scopeAt 27).names = _
        decide +kernel
      · exact EV.callTy P.brange CALL.range1 (EVs.cons (by walk_at "ev") EVs.nil) (by walk_at "kind")
      · obtain ⟨j, hj, rfl⟩ := rangeL_mem (n := 5) hd
        show EB c (k + 4) _ _ _ _ (decide (W.getD (j + 1) 0 < W.getD j 0))
        refine EB.val (EV.callF P.gtF P.ggt (gt_call P.gtF _ _) (EVs.cons ?_ (EVs.cons ?_ EVs.nil)) (by walk_at "kind"))
        · exact EV.itemOwn (i := (j : Int)) (ds := W.map .int) (e := .own a (W.map .int)) (by walk_at "mem") (by walk_at "ev") (by omega) (by rw [Int.toNat_natCast]; exact ints_get (by omega)) (by simp [hW]) (.inl rfl)
        · exact EV.itemOwn (i := (j : Int) + 1) (ds := W.map .int) (e := .own a (W.map .int)) (by walk_at "mem") (by repeat' walk_at "ev") (by omega) (by rw [show ((j : Int) + 1).toNat = j + 1 by omega]; exact ints_get (by omega)) (by simp [hW]) (.inl rfl)
      · obtain ⟨j, hj, rfl⟩ := rangeL_mem (n := 5) hd
        walk_at "ev"
      · obtain ⟨j, hj, rfl⟩ := rangeL_mem (n := 5) hd
        rfl
    walk_at "set"
    refine XS.seq (XT.iff (b := decide ((fallsOf W).map (fun (n : Nat) => (n : Int)) = [])) (EB.cmp ?_ ?_ CMP.eqInts) (fun h => ?_) (fun h => XS.nil)) ?_
    · walk_at "ev"
    · exact EV.listD EVs.nil
    · exact absurd (by simpa using h) hne
    refine XS.assign (d := .int (placeOf cells i W : Nat)) ?_ (by walk_at "kind") ?_
    · have h9 : ((i : Int) % 9).toNat = i % 9 := by omega
      have hlt : (cells.getD (i % 9) 0 % ((fallsOf W).length : Int)).toNat < (fallsOf W).length := by
        have h1 := Int.emod_lt_of_pos (cells.getD (i % 9) 0) (b := ((fallsOf W).length : Int)) (by omega)
        have h2 := Int.emod_nonneg (cells.getD (i % 9) 0) (b := ((fallsOf W).length : Int)) (by omega)
        omega
      have hx : ((fallsOf W).map (fun (n : Nat) => (n : Int))).getD (cells.getD (i % 9) 0 % ((fallsOf W).length : Int)).toNat 0 = (placeOf cells i W : Nat) := by
        unfold placeOf
        generalize (cells.getD (i % 9) 0 % ((fallsOf W).length : Int)).toNat = j at hlt ⊢
        rw [List.getD_eq_getElem?_getD, List.getD_eq_getElem?_getD, List.getElem?_map, List.getElem?_eq_getElem hlt]
        rfl
      rw [← hx]
      refine EV.item (i := cells.getD (i % 9) 0 % ((fallsOf W).length : Int)) (ds := ((fallsOf W).map (fun (n : Nat) => (n : Int))).map .int) (by walk_at "ev") (EV.mod' (EV.item (i := (i : Int) % 9) (ds := cells.map .int) (by walk_at "ev") (EV.mod' (by walk_at "ev") (by walk_at "ev") (by decide)) (by omega) (by rw [h9]; exact ints_get (by omega)) (by simp [hc])) ?_ (by omega)) (Int.emod_nonneg _ (by omega)) (ints_get (by simpa using hlt)) (by simp; omega)
      have hl : ((fallsOf W).length : Int) = ((((fallsOf W).map (fun (n : Nat) => (n : Int))).map D.int).length : Nat) := by simp
      rw [hl]
      exact EV.callBi P.blen (CALL.len (by simp; omega)) (EVs.cons (by walk_at "ev") EVs.nil) (by walk_at "kind")
    walk_at "set"
    generalize placeOf cells i W = p at *
    refine XS.assign (d := .int (W.getD p 0)) ?_ (by walk_at "kind") ?_
    · exact EV.itemOwn (i := (p : Int)) (ds := W.map .int) (e := .own a (W.map .int)) (by walk_at "mem") (by walk_at "ev") (by omega) (by rw [Int.toNat_natCast]; exact ints_get (by omega)) (by simp [hW]) (.inl rfl)
    walk_at "set"
    refine XS.seq (XT.setitem (a := a) (ds := W.map .int) (i := (p : Int)) (d := .int (W.getD (p + 1) 0)) P.setF (by decide +kernel) (by decide +kernel) (by decide +kernel) (by walk_at "mem") (by walk_at "ev") ?_ rfl (by omega) (by simp [hW]; omega) (by simp [hW]) P.gset (by walk_at "kind")) ?_
    · exact EV.itemOwn (i := (p : Int) + 1) (ds := W.map .int) (e := .own a (W.map .int)) (by walk_at "mem") (by repeat' walk_at "ev") (by omega) (by rw [show ((p : Int) + 1).toNat = p + 1 by omega]; exact ints_get (by omega)) (by simp [hW]) (.inl rfl)
    walk_at "set"
    rw [Int.toNat_natCast, show (W.map D.int).set p (.int (W.getD (p + 1) 0)) = (W.set p (W.getD (p + 1) 0)).map .int by rw [List.map_set]]
    refine XS.seq (XT.setitem (a := a) (ds := (W.set p (W.getD (p + 1) 0)).map .int) (i := (p : Int) + 1) (d := .int (W.getD p 0 + 1)) P.setF (by decide +kernel) (by decide +kernel) (by decide +kernel) (by walk_at "mem") (by repeat' walk_at "ev") (by repeat' walk_at "ev") rfl (by omega) (by simp [hW]; omega) (by simp [hW]) P.gset (by walk_at "kind")) ?_
    walk_at "set"
    rw [show ((p : Int) + 1).toNat = p + 1 by omega, show ((W.set p (W.getD (p + 1) 0)).map D.int).set (p + 1) (.int (W.getD p 0 + 1)) = (fallAt W p).map .int by unfold fallAt; simp only [List.map_set]]
    refine XS.seq (XT.augInt (a := (i : Nat)) (b := 1) (by walk_at "mem") (by walk_at "ev") (by walk_at "kind")) ?_
    walk_at "set"
    rw [show ((i + 1 : Nat) : Int) = (i : Int) + 1 from rfl]
    exact XS.nilDrop (by walk_at "sub")
  · have hW := setl_length (cells := cells) hw n
    generalize setl cells w n = W at *
    refine XS.seq (ρ₁ := setV [("word", .val (IL w)), ("cells", .val (IL cells)), ("left", .own a (W.map .int)), ("steps", .val (.int (n : Nat)))] "falls" (.val (NL (fallsOf W)))) ?_ ?_
    · have e0 : NL (fallsOf W) = .list (((rangeL 0 5 1).filter fun d => decide (W.getD (d.i.toNat + 1) 0 < W.getD d.i.toNat 0)).map fun d => d) := by
        rw [List.map_id', show rangeL 0 5 1 = rangeL 0 (5 : Nat) 1 from rfl, rangeL_is, List.filter_map]
        unfold NL IL fallsOf
        rw [List.map_map]
        rfl
      rw [e0]
      refine XT.assignComp (ρ' := [("left", .own a (W.map .int))]) (dv := .range 0 5 1) _ _ rfl (CompOk.mk' (ns := ["left"]) rfl (by walk_at "sub") (by decide +kernel) ?_) (by walk_at "kind") ?_ (ITER.range (by decide) (size_le 5)) (by decide) (fun C d hd => ?_) (fun C d hd _ => ?_) (fun d hd _ => ?_)
      · show ∀ x ∈ _, List.lookup x (scopeAt 27).names = _
        decide +kernel
      · exact EV.callTy P.brange CALL.range1 (EVs.cons (by walk_at "ev") EVs.nil) (by walk_at "kind")
      · obtain ⟨j, hj, rfl⟩ := rangeL_mem (n := 5) hd
        show EB c (k + 4) _ _ _ _ (decide (W.getD (j + 1) 0 < W.getD j 0))
        refine EB.val (EV.callF P.gtF P.ggt (gt_call P.gtF _ _) (EVs.cons ?_ (EVs.cons ?_ EVs.nil)) (by walk_at "kind"))
        · exact EV.itemOwn (i := (j : Int)) (ds := W.map .int) (e := .own a (W.map .int)) (by walk_at "mem") (by walk_at "ev") (by omega) (by rw [Int.toNat_natCast]; exact ints_get (by omega)) (by simp [hW]) (.inl rfl)
        · exact EV.itemOwn (i := (j : Int) + 1) (ds := W.map .int) (e := .own a (W.map .int)) (by walk_at "mem") (by repeat' walk_at "ev") (by omega) (by rw [show ((j : Int) + 1).toNat = j + 1 by omega]; exact ints_get (by omega)) (by simp [hW]) (.inl rfl)
      · obtain ⟨j, hj, rfl⟩ := rangeL_mem (n := 5) hd
        walk_at "ev"
      · obtain ⟨j, hj, rfl⟩ := rangeL_mem (n := 5) hd
        rfl
    walk_at "set"
    refine XS.stop (XT.iff (b := decide ((fallsOf W).map (fun (n : Nat) => (n : Int)) = [])) (EB.cmp ?_ ?_ CMP.eqInts) (fun h => ?_) (fun h => ?_))
    · walk_at "ev"
    · exact EV.listD EVs.nil
    · refine XS.ret (by walk_at "frz") ?_
      repeat' walk_at "ev"
    · rw [he] at h; simp at h
end Mine
end
section -- F5
open PySem PySem.W PyProof.Rows PySem.Calls
set_option Elab.async false
set_option linter.all false
set_option maxRecDepth 100000
namespace Mine
variable {c : Cx} {k : Nat}
noncomputable def rowStep (rows : List Nat) (leaf : Nat) : List Nat := rows.take leaf ++ [rows.getD leaf 0 + 1, rows.getD leaf 0 + 1] ++ rows.drop (leaf + 1)
noncomputable def rowN (w : List Int) : Nat → List Nat
  | 0 => [1]
  | i + 1 => rowStep (rowN w i) (w.getD i 0).toNat
noncomputable abbrev dots (n : Nat) : List Nat := List.replicate n 46
noncomputable def rowsOf (w : List Int) : List (List Nat) := (rowN w 6).map dots
noncomputable abbrev SL (l : List (List Nat)) : D := .list (l.map .str)
noncomputable def Valid (w : List Int) : Prop := w.length = 6 ∧ ∀ j, j < 6 → 0 ≤ w.getD j 0 ∧ w.getD j 0 ≤ j
noncomputable def drawnOf (cells : List Int) : List Int := (List.range 6).map fun (k : Nat) => cells.getD k 0 % ((k : Int) + 1)
noncomputable def secondOf (cells : List Int) : List Int := (cells.drop 6).foldl stepOf (drawnOf cells)
theorem strOk_dots (n : Nat) : PyData.strOk ⟨(dots n).toArray⟩ = true := by
  unfold PyData.strOk
  rw [Array.all_eq_true_iff_forall_mem]
  intro x hx
  have : x ∈ dots n := by simpa using hx
  rw [List.eq_of_mem_replicate this]
  rfl
theorem cellsOf_length (script : List Int) : (cellsOf script).length = 9 := by simp [cellsOf]
theorem cellsOf_nonneg {script : List Int} : ∀ v ∈ cellsOf script, 0 ≤ v := by
  intro v hv
  unfold cellsOf at hv
  obtain ⟨j, hj, rfl⟩ := List.mem_map.mp hv
  have h1 : ∀ j, j < 9 → 0 ≤ toldL.getD j 0 := by decide
  have h2 : ∀ l : List Int, (∀ x ∈ l, 0 ≤ x) → 0 ≤ l.sum := by
    intro l
    induction l with
    | nil => intro _; simp
    | cons a r ih => intro h; rw [List.sum_cons]; have := h a List.mem_cons_self; have := ih fun x hx => h x (List.mem_cons_of_mem _ hx); omega
  have h3 := h1 j (List.mem_range.mp hj)
  have h4 : 0 ≤ (addL script j).sum := h2 _ fun x hx => by
    obtain ⟨y, _, rfl⟩ := List.mem_map.mp hx
    exact Int.emod_nonneg y (by decide)
  omega
theorem drawn_valid (cells : List Int) : Valid (drawnOf cells) := by
  refine ⟨by simp [drawnOf], fun j hj => ?_⟩
  unfold drawnOf
  rw [List.getD_eq_getElem?_getD, List.getElem?_map, List.getElem?_range hj]
  show 0 ≤ cells.getD j 0 % ((j : Int) + 1) ∧ cells.getD j 0 % ((j : Int) + 1) ≤ j
  have h1 := Int.emod_nonneg (cells.getD j 0) (b := (j : Int) + 1) (by omega)
  have h2 := Int.emod_lt_of_pos (cells.getD j 0) (b := (j : Int) + 1) (by omega)
  omega
theorem law_call {N : Nat} (P : PG c) (script : List Int) (fin : List Int → List Int) (hz : script.length ≤ 63)
    (hg : ∀ w, Valid w → CALLn N c (k + 19) (.ref 210) [IL w, IL (cellsOf script)] (.tup [SL (rowsOf w), IL (fin w)])) (hv : Valid (secondOf (cellsOf script)))
    (hlaw : rowsOf (drawnOf (cellsOf script)) ≠ rowsOf (secondOf (cellsOf script)) ∨ fin (drawnOf (cellsOf script)) = fin (secondOf (cellsOf script))) :
    CALLn N c (k + 20) (.ref 215) [IL script] (.bool true) := by
  refine P.lawF.enterN rfl fun O₀ L cd => ?_
  refine XSn.cast (ρ₁ := [("script", .val (IL script))]) rfl ?_
  refine XSn.seq (XTn.of (XT.assign (d := IL (cellsOf script)) ?_ (by walk_at "kind"))) ?_
  · exact EV.callF P.cellsF P.gcells (cells_call (k := k + 17) P script hz) (EVs.cons (by walk_at "ev") EVs.nil) (by walk_at "kind")
  walk_at "set"
  have hcl := cellsOf_length script
  have hc0 := cellsOf_nonneg (script := script)
  generalize hcc : cellsOf script = cells at *
  refine XSn.seq (ρ₁ := setV [("script", .val (IL script)), ("cells", .val (IL cells))] "drawn" (.val (IL (drawnOf cells)))) (XTn.of ?_) ?_
  · have e0 : IL (drawnOf cells) = .list (((rangeL 0 6 1).filter fun _ => true).map fun d => .int (cells.getD d.i.toNat 0 % (d.i + 1))) := by
      rw [map_filter_true, show rangeL 0 6 1 = rangeL 0 (6 : Nat) 1 from rfl, rangeL_is]
      unfold drawnOf IL
      rw [List.map_map, List.map_map]
      rfl
    rw [e0]
    refine XT.assignComp (ρ' := [("cells", .val (IL cells))]) (dv := .range 0 6 1) _ _ rfl (CompOk.mk' (ns := ["cells"]) rfl (by walk_at "sub") (by decide +kernel) ?_) (by walk_at "kind") ?_ (ITER.range (by decide) (size_le 6)) (by decide) (fun C d hd => rfl) (fun C d hd _ => ?_) (fun d hd _ => rfl)
    · show ∀ x ∈ _, List.lookup x (scopeAt 29).names = _
      decide +kernel
    · exact EV.callTy P.brange CALL.range1 (EVs.cons (by walk_at "ev") EVs.nil) (by walk_at "kind")
    · obtain ⟨j, hj, rfl⟩ := rangeL_mem (n := 6) hd
      show EV c (k + 19) _ _ _ _ (.int (cells.getD j 0 % ((j : Int) + 1)))
      refine EV.mod' (EV.item (i := (j : Int)) (ds := cells.map .int) (by walk_at "ev") (by walk_at "ev") (by omega) (by rw [Int.toNat_natCast]; exact ints_get (by omega)) (by simp [hcl])) ?_ (by omega)
      repeat' walk_at "ev"
  walk_at "set"
  have hdv := drawn_valid cells
  generalize hdd : drawnOf cells = dr at *
  have hlen6 : (cells.drop 6).length ≤ 100 := by simp [hcl]
  refine XSn.assign (d := .tup [SL (rowsOf dr), IL (fin dr)]) ?_ (by walk_at "kind") ?_
  · exact EVn.callF P.grownF P.ggrown (hg dr hdv) (EVs.cons (by walk_at "ev") (EVs.cons (by walk_at "ev") EVs.nil)) (by walk_at "kind")
  walk_at "set"
  refine XSn.assign (d := .tup [SL (rowsOf (secondOf cells)), IL (fin (secondOf cells))]) ?_ (by walk_at "kind") ?_
  · refine EVn.callF P.grownF P.ggrown (hg _ hv) (EVs.cons ?_ (EVs.cons (by walk_at "ev") EVs.nil)) (by walk_at "kind")
    have e1 : secondOf cells = (cells.drop 6).foldl stepOf dr := by unfold secondOf; rw [hdd]
    rw [e1]
    refine EV.callF P.secondF P.gsecond (second_call (k := k + 18) P.secondF dr (cells.drop 6) hdv.1 hlen6 fun v hm => hc0 v (List.mem_of_mem_drop hm)) (EVs.cons (by walk_at "ev") (EVs.cons ?_ EVs.nil)) (by walk_at "kind")
    have e2 : IL (cells.drop 6) = .list (pickD (cells.map .int) (some ((6 : Nat) : Int)) none none) := by rw [pickD_from, ← List.map_drop]
    rw [e2]
    exact EV.slice (by walk_at "ev") (show EV c (k + 19) _ _ _ _ _ from EV.intC) trivial (by simp [hcl])
  walk_at "set"
  refine XSn.of ?_
  refine XS.seq (XT.iff (b := false || false) (EB.or (EB.cmp (dl := .tup [SL (rowsOf dr), IL (fin dr)]) (by walk_at "ev") EV.noneC CMP.isNone) fun _ => EB.cmp (dl := .tup [SL (rowsOf (secondOf cells)), IL (fin (secondOf cells))]) (by walk_at "ev") EV.noneC CMP.isNone) (fun h => by simp at h) (fun h => XS.nil)) ?_
  have e3 : true = ((!decide (rowsOf dr = rowsOf (secondOf cells))) || decide (fin dr = fin (secondOf cells))) := by
    rcases hlaw with h | h
    · simp [h]
    · simp [h]
  have ok : ∀ w, ∀ s ∈ rowsOf w, PyData.strOk ⟨s.toArray⟩ = true := fun w s hs => by
    unfold rowsOf at hs
    obtain ⟨n, _, rfl⟩ := List.mem_map.mp hs
    exact strOk_dots n
  refine XS.ret (by walk_at "frz") ?_
  rw [e3]
  refine EV.or (EV.cmp (dl := SL (rowsOf dr)) (dr := SL (rowsOf (secondOf cells))) ?_ ?_ (CMP.neStrs (k := k + 16) (ok _) (ok _))) fun _ => EV.cmp (dl := IL (fin dr)) (dr := IL (fin (secondOf cells))) ?_ ?_ (CMP.eqInts (k := k + 16))
  · exact EV.itemTup (i := 0) (by walk_at "ev") (by walk_at "ev") (by decide) rfl (by simp)
  · exact EV.itemTup (i := 0) (by walk_at "ev") (by walk_at "ev") (by decide) rfl (by simp)
  · exact EV.itemTup (i := 1) (by walk_at "ev") (by walk_at "ev") (by decide) rfl (by simp)
  · exact EV.itemTup (i := 1) (by walk_at "ev") (by walk_at "ev") (by decide) rfl (by simp)
end Mine
end
section -- F6
open PySem PySem.W PyProof.Rows PySem.Calls
set_option Elab.async false
set_option linter.all false
set_option maxRecDepth 100000
namespace Mine
variable {c : Cx} {k : Nat}
theorem range_get {n i j : Nat} (h : (List.range n)[i]? = some j) : i < n ∧ j = i := by
  obtain ⟨h1, h2⟩ := List.getElem?_eq_some_iff.mp h
  simp at h1 h2
  exact ⟨h1, h2.symm⟩
noncomputable def sepL : List (List Nat) := [[10], [13], [13, 10]]
theorem rowStep_spec {rows : List Nat} {leaf i : Nat} (hl : rows.length = i + 1) (hb : ∀ n ∈ rows, 1 ≤ n ∧ n ≤ i + 1) (hlf : leaf ≤ i) : (rowStep rows leaf).length = i + 2 ∧ ∀ n ∈ rowStep rows leaf, 1 ≤ n ∧ n ≤ i + 2 := by
  have hm : rows.getD leaf 0 ∈ rows := by
    rw [List.getD_eq_getElem?_getD, List.getElem?_eq_getElem (by omega)]
    exact List.getElem_mem _
  have hb' := hb _ hm
  refine ⟨by simp [rowStep, hl]; omega, fun n hn => ?_⟩
  unfold rowStep at hn
  rcases List.mem_append.mp hn with h | h
  · rcases List.mem_append.mp h with h | h
    · have := hb n (List.mem_of_mem_take h); omega
    · have : n = rows.getD leaf 0 + 1 := by simpa using h
      omega
  · have := hb n (List.mem_of_mem_drop h); omega
theorem rowN_spec {w : List Int} (hv : Valid w) : ∀ i, i ≤ 6 → (rowN w i).length = i + 1 ∧ ∀ n ∈ rowN w i, 1 ≤ n ∧ n ≤ i + 1
  | 0, _ => by simp [rowN]
  | i + 1, h => by
    obtain ⟨a, b⟩ := rowN_spec hv i (by omega)
    have := hv.2 i (by omega)
    exact rowStep_spec a b (by omega)
theorem mail_call (P : PG c) (w : List Int) (hv : Valid w)
    (hq : ∀ n, 1 ≤ n → n ≤ 6 → ∀ j, j < 3 → CALL c k (.ref 96) [.str (dots n ++ sepL.getD j [] ++ dots n)] (.str (dots (n + 1) ++ [13, 10] ++ dots (n + 1))))
    (hs : ∀ m, 2 ≤ m → m ≤ 7 → CALL c k (.builtin "str.split") [.str (dots m ++ [13, 10] ++ dots m), .str [13, 10]] (.list [.str (dots m), .str (dots m)])) : CALL c (k + 1) (.ref 186) [IL w] (SL (rowsOf w)) := by
  refine P.mailF.enter rfl fun O₀ L cd => ?_
  refine XS.cast (ρ₁ := [("word", .val (IL w))]) rfl ?_
  refine XS.assign (d := SL [[46]]) (EV.listD (EVs.cons (EV.strC rfl) EVs.nil)) (by walk_at "kind") ?_
  walk_at "set"
  refine XS.seq (ρ₁ := [("rows", .val (SL ((rowN w 6).map dots)))]) ?_ (XS.ret (by walk_at "frz") (by show EV c k _ _ _ _ (SL ((rowN w 6).map dots)); walk_at "ev"))
  refine (XT.for_ (dv := .range 0 6 1) (ds := rangeL 0 6 1) (fun i => [("word", .val (IL w)), ("rows", .val (SL ((rowN w i).map dots)))]) ?_ (ITER.range (by decide) (size_le 6)) (by walk_at "kind") rfl ?_).drop ?_
  · exact EV.callTy P.brange CALL.range1 (EVs.cons (by walk_at "ev") EVs.nil) (by walk_at "kind")
  · intro i d hd
    have hi : i < 6 ∧ d = .int (i : Int) := by
      rw [show rangeL 0 6 1 = rangeL 0 (6 : Nat) 1 from rfl, rangeL_is, List.getElem?_map] at hd
      obtain ⟨j, hj, rfl⟩ := Option.map_eq_some_iff.mp hd
      obtain ⟨h1, h2⟩ := range_get hj
      exact ⟨h1, by rw [h2]⟩
    obtain ⟨hi, rfl⟩ := hi
    obtain ⟨hl, hb⟩ := rowN_spec hv i (by omega)
    have hwv := hv.2 i hi
    have hw6 := hv.1
    rw [show rowN w (i + 1) = rowStep (rowN w i) (w.getD i 0).toNat from rfl]
    generalize rowN w i = R at *
    generalize hleaf : w.getD i 0 = lf at *
    obtain ⟨f, rfl⟩ := Int.eq_ofNat_of_zero_le hwv.1
    simp only [Int.toNat_natCast]
    have hf : f ≤ i := by omega
    have hm : R.getD f 0 ∈ R := by
      rw [List.getD_eq_getElem?_getD, List.getElem?_eq_getElem (by omega)]
      exact List.getElem_mem _
    have hn := hb _ hm
    have hget : ((R.map dots).map D.str)[f]? = some (.str (dots (R.getD f 0))) := by
      rw [List.getElem?_map, List.getElem?_map, List.getD_eq_getElem?_getD, List.getElem?_eq_getElem (by omega)]; rfl
    walk_at "set"
    refine XS.assign (d := .int (f : Nat)) ?_ (by walk_at "kind") ?_
    · rw [← hleaf]
      exact EV.item (i := (i : Int)) (ds := w.map .int) (by walk_at "ev") (by walk_at "ev") (by omega) (by rw [Int.toNat_natCast]; exact ints_get (by omega)) (by simp [hw6])
    walk_at "set"
    generalize hN : R.getD f 0 = n at *
    refine XS.assign (d := .str (dots (n + 1) ++ [13, 10] ++ dots (n + 1))) ?_ (by walk_at "kind") ?_
    · have h3 : i % 3 < 3 := Nat.mod_lt _ (by decide)
      refine EV.callF P.quoteF P.gquote (hq n hn.1 (by omega) (i % 3) h3) (EVs.cons ?_ EVs.nil) (by walk_at "kind")
      have hs3 : ∀ j, j < 3 → (sepL.getD j []).length ≤ 2 ∧ (sepL.map D.str)[j]? = some (.str (sepL.getD j [])) := by
        intro j hj
        match j, hj with
        | 0, _ => exact ⟨by decide, rfl⟩
        | 1, _ => exact ⟨by decide, rfl⟩
        | 2, _ => exact ⟨by decide, rfl⟩
      obtain ⟨hs1, hs2⟩ := hs3 _ h3
      generalize sepL.getD (i % 3) [] = sp at *
      refine EV.add_str (EV.add_str ?_ ?_ (by simp; omega)) ?_ (by simp; omega)
      · exact EV.item (i := (f : Int)) (ds := (R.map dots).map .str) (by walk_at "ev") (by walk_at "ev") (by omega) (by rw [Int.toNat_natCast]; exact hget) (by simp; omega)
      · refine EV.item (i := (i : Int) % 3) (ds := sepL.map .str) (EV.listD ?_ (by decide)) (EV.mod' (by walk_at "ev") (by walk_at "ev") (by decide)) (by omega) (by rw [show ((i : Int) % 3).toNat = i % 3 by omega]; exact hs2) (by decide)
        exact EVs.cons (EV.strC rfl) (EVs.cons (EV.strC rfl) (EVs.cons (EV.strC rfl) EVs.nil))
      · exact EV.item (i := (f : Int)) (ds := (R.map dots).map .str) (by walk_at "ev") (by walk_at "ev") (by omega) (by rw [Int.toNat_natCast]; exact hget) (by simp; omega)
    walk_at "set"
    refine XS.assign (d := SL ((rowStep R f).map dots)) ?_ (by walk_at "kind") ?_
    · have e1 : SL ((rowStep R f).map dots) = .list ((pickD ((R.map dots).map .str) none (some (f : Int)) none ++ [D.str (dots (n + 1)), .str (dots (n + 1))]) ++ pickD ((R.map dots).map .str) (some ((f + 1 : Nat) : Int)) none none) := by
        rw [pickD_upto, pickD_from]
        unfold rowStep
        rw [hN]
        simp
      have l1 : (pickD ((R.map dots).map D.str) none (some (f : Int)) none).length ≤ 7 := by rw [pickD_upto]; simp; omega
      have l2 : (pickD ((R.map dots).map D.str) (some ((f + 1 : Nat) : Int)) none none).length ≤ 7 := by rw [pickD_from]; simp; omega
      rw [e1]
      refine EV.add_list (EV.add_list (EV.slice (by walk_at "ev") trivial (show EV c k _ _ _ _ _ from by walk_at "ev") (by simp; omega)) ?_ (by simp only [List.length_cons, List.length_nil]; omega)) (EV.slice (by walk_at "ev") (show EV c k _ _ _ _ _ from by rw [show ((f + 1 : Nat) : Int) = (f : Int) + 1 from rfl]; repeat' walk_at "ev") trivial (by simp; omega)) (by simp only [List.length_append, List.length_cons, List.length_nil]; omega)
      exact EV.meth1 (T := "str") (d1 := .str (dots (n + 1) ++ [13, 10] ++ dots (n + 1))) (d2 := .str [13, 10]) (by walk_at "ev") (EV.strC rfl) rfl PySem.F.plainAttrs_str PySem.F.slot_str_split PySem.F.type_str_split (hs (n + 1) (by omega) (by omega))
    walk_at "set"
    exact XS.nilDrop (by walk_at "sub")
  · rw [rangeL_length]
    show List.Sublist _ ([("word", Ent.val (IL w)), ("rows", Ent.val (SL ((rowN w 6).map dots)))] : List (Str × Ent))
    walk_at "sub"
end Mine
end
section -- F2
open PySem PySem.W PyProof.Rows PySem.Calls
set_option Elab.async false
set_option linter.all false
set_option maxRecDepth 100000
namespace Mine
variable {c : Cx} {k : Nat}
noncomputable def nib : Nat → Nat → List Nat
  | 0, _ => []
  | f + 1, n => if n = 0 then [] else (n % 16) :: nib f (n / 16)
noncomputable def encB (d : Nat) : UInt8 := UInt8.ofNat (65 + d)
noncomputable def apOf (n : Nat) : List UInt8 := ((nib 8 n).map encB).reverse
theorem nib_spec : ∀ (f n : Nat), n < 16 ^ f → (∀ i, i < (nib f n).length → n / 16 ^ i ≠ 0 ∧ (nib f n)[i]? = some (n / 16 ^ i % 16)) ∧ n / 16 ^ (nib f n).length = 0
  | 0, n, h => by
    have : n = 0 := by simpa using h
    subst this
    simp [nib]
  | f + 1, n, h => by
    unfold nib
    by_cases h0 : n = 0
    · subst h0; simp
    · rw [if_neg h0]
      have h' : n / 16 < 16 ^ f := by
        rw [Nat.div_lt_iff_lt_mul (by decide)]; rw [Nat.pow_succ] at h; exact h
      obtain ⟨a, b⟩ := nib_spec f (n / 16) h'
      refine ⟨fun i hi => ?_, ?_⟩
      · cases i with
        | zero => simpa using h0
        | succ i =>
          have := a i (by simpa using hi)
          rw [Nat.pow_succ, Nat.mul_comm, ← Nat.div_div_eq_div_mul]
          exact ⟨this.1, by simpa using this.2⟩
      · rw [List.length_cons, Nat.pow_succ, Nat.mul_comm, ← Nat.div_div_eq_div_mul]
        exact b
theorem ap_call (P : PG c) (z : Int) (hz : z.natAbs < 16 ^ 8) : CALL c (k + 1) (.ref 51) [.int z] (.bytes (apOf z.natAbs)) := by
  refine P.apF.enter rfl fun O₀ L cd => ?_
  refine XS.cast (ρ₁ := [("num", .val (.int z))]) rfl ?_
  obtain ⟨sp, sp0⟩ := nib_spec 8 z.natAbs hz
  generalize hn : z.natAbs = n at *
  refine XS.assign (d := .bytes []) EV.bytesC (by walk_at "kind") ?_
  walk_at "set"
  refine XS.assign (d := .bytes [65, 66, 67, 68, 69, 70, 71, 72, 73, 74, 75, 76, 77, 78, 79, 80]) EV.bytesC (by walk_at "kind") ?_
  walk_at "set"
  refine XS.assign (d := .int n) ?_ (by walk_at "kind") ?_
  · refine EV.callTy P.bint CALL.int (EVs.cons ?_ EVs.nil) (by walk_at "kind")
    have e : (n : Int) = if z < 0 then -z else z := by split <;> omega
    rw [e]
    exact EV.callBi P.babs CALL.abs (EVs.cons (by walk_at "ev") EVs.nil) (by walk_at "kind")
  walk_at "set"
  refine XS.seq (XT.while_ (fun i => [("num", .val (.int (n / 16 ^ i : Nat))), ("val", .val (.bytes (((nib 8 n).take i).map encB).reverse)), ("AP", .val (.bytes [65, 66, 67, 68, 69, 70, 71, 72, 73, 74, 75, 76, 77, 78, 79, 80]))]) (nib 8 n).length ?_ ?_ (.inl ⟨?_, rfl⟩)) ?_
  · simp
  · intro i hi
    obtain ⟨s1, s2⟩ := sp i hi
    generalize hm : n / 16 ^ i = m at *
    have hlen : (nib 8 n).length ≤ 8 := by
      have : ∀ f n, (nib f n).length ≤ f := by
        intro f
        induction f with
        | zero => intro n; simp [nib]
        | succ f ih => intro n; unfold nib; split; simp; simpa using ih _
      exact this 8 n
    refine ⟨?_, ?_⟩
    · have e : ((m : Int) != 0) = true := by simpa using s1
      rw [← e]
      exact EB.int (by walk_at "ev")
    · refine XS.seq (XT.tup2 (d1 := .int (m / 16 : Nat)) (d2 := .int (m % 16 : Nat)) ?_ (by walk_at "kind") (by walk_at "kind")) ?_
      · rw [show ((m / 16 : Nat) : Int) = (m : Int) / 16 by omega, show ((m % 16 : Nat) : Int) = (m : Int) % 16 by omega]
        exact EV.callBi P.bdivmod (CALL.divmod' (by omega) (by decide) (by decide)) (EVs.cons (by walk_at "ev") (EVs.cons (by walk_at "ev") EVs.nil)) (by walk_at "kind")
      refine XS.cast (by with_reducible (simp (disch := decide +kernel) only [setV_hit, setV_miss, setV_nil]; try rfl)) ?_
      refine XS.assign (d := .bytes (encB (m % 16) :: (((nib 8 n).take i).map encB).reverse)) ?_ (by walk_at "kind") ?_
      · have hlt : m % 16 < 16 := Nat.mod_lt _ (by decide)
        have e : ∀ j : Nat, j < 16 → ((([65, 66, 67, 68, 69, 70, 71, 72, 73, 74, 75, 76, 77, 78, 79, 80] : List UInt8)).drop ((some (j : Int)).elim 0 (clipAt 16))).take ((some ((j : Int) + 1)).elim 16 (clipAt 16) - (some (j : Int)).elim 0 (clipAt 16)) = [encB j] := by decide
        have e' := e (m % 16) hlt
        refine EV.add_bytes (a := [encB (m % 16)]) (b := (((nib 8 n).take i).map encB).reverse) ?_ ?_ (by simp; omega)
        · rw [← e']
          refine EV.sliceBytes (b := [65, 66, 67, 68, 69, 70, 71, 72, 73, 74, 75, 76, 77, 78, 79, 80]) (lo := some ((m % 16 : Nat) : Int)) (hi := some (((m % 16 : Nat) : Int) + 1)) ?_ (show EV c k _ _ _ _ _ from ?_) (show EV c k _ _ _ _ _ from ?_) (by decide)
          · walk_at "ev"
          · walk_at "ev"
          · repeat' walk_at "ev"
        · walk_at "ev"
      walk_at "set"
      refine XS.nilDrop ?_
      have e2 : ((nib 8 n).take (i + 1)).map encB = ((nib 8 n).take i).map encB ++ [encB (m % 16)] := by rw [List.take_succ, s2]; simp
      rw [e2, List.reverse_append, List.reverse_singleton, List.singleton_append, Nat.pow_succ, ← Nat.div_div_eq_div_mul, hm]
      walk_at "sub"
  · rw [sp0]
    have e : (((0 : Nat) : Int) != 0) = false := rfl
    rw [← e]
    exact EB.int (by walk_at "ev")
  · refine XS.ret (by walk_at "frz") ?_
    rw [List.take_length]
    show EV c k _ _ _ _ (.bytes ((nib 8 n).map encB).reverse)
    walk_at "ev"
end Mine
end
section -- F7
open PySem PySem.W PyProof.Rows PySem.Calls
set_option Elab.async false
set_option linter.all false
set_option maxRecDepth 100000
namespace Mine
variable {c : Cx} {k : Nat}
noncomputable def quoL : List (List UInt8) := [[34, 34], [34, 40, 34], [34, 41, 92, 34, 34]]
noncomputable def quoB (v : Int) : List UInt8 := quoL.getD (v / 7 % 3).toNat []
noncomputable def nameB (v : Int) (i : Nat) : List UInt8 := apOf (8 * v + i + 1).toNat
noncomputable def nodeB (v : Int) (i : Nat) : List UInt8 := [40] ++ quoB v ++ [47] ++ nameB v i ++ [47, 120, 120, 41]
noncomputable def textStep (t : List UInt8) (p : Nat) (nd : List UInt8) : List UInt8 := joinB 120 ((split1 120 t).take (p + 1)) ++ nd ++ joinB 120 ((split1 120 t).drop (p + 1))
noncomputable def textN (w cells : List Int) : Nat → List UInt8
  | 0 => [120]
  | i + 1 => textStep (textN w cells i) (w.getD i 0).toNat (nodeB (cells.getD i 0) i)
theorem split1_sum (x : UInt8) : ∀ l : List UInt8, ((split1 x l).map List.length).sum + (split1 x l).length = l.length + 1
  | [] => rfl
  | y :: r => by
    have ih := split1_sum x r
    unfold split1
    split
    · simp only [List.map_cons, List.sum_cons, List.length_cons, List.length_nil]; omega
    · cases e : split1 x r with
      | nil => exact absurd e (split1_ne x r)
      | cons a t =>
        rw [e] at ih
        simp only [List.map_cons, List.sum_cons, List.length_cons] at ih ⊢
        omega
theorem nib_len : ∀ f n, (nib f n).length ≤ f := by
  intro f
  induction f with
  | zero => intro n; simp [nib]
  | succ f ih => intro n; unfold nib; split; simp; simpa using ih _
theorem node_len (v : Int) (i : Nat) : (nodeB v i).length ≤ 20 := by
  have h1 : (quoB v).length ≤ 5 := by
    unfold quoB
    generalize (v / 7 % 3).toNat = j
    match j with
    | 0 => decide
    | 1 => decide
    | 2 => decide
    | j + 3 => simp [quoL]
  have h2 : (nameB v i).length ≤ 8 := by simpa [nameB, apOf] using nib_len 8 _
  simp [nodeB]; omega
theorem sums_split (l : List (List UInt8)) (n : Nat) : ((l.take n).map List.length).sum + ((l.drop n).map List.length).sum = (l.map List.length).sum := by
  conv => rhs; rw [← List.take_append_drop n l, List.map_append, List.sum_append]
theorem step_len (t : List UInt8) (p : Nat) (nd : List UInt8) : (textStep t p nd).length ≤ t.length + 1 + nd.length ∧ (((split1 120 t).take (p + 1)).map List.length).sum + ((split1 120 t).take (p + 1)).length ≤ t.length + 1 ∧
    (((split1 120 t).drop (p + 1)).map List.length).sum + ((split1 120 t).drop (p + 1)).length ≤ t.length + 1 := by
  have h1 := joinB_len 120 ((split1 120 t).take (p + 1))
  have h2 := joinB_len 120 ((split1 120 t).drop (p + 1))
  have h3 := sums_split (split1 120 t) (p + 1)
  have h4 := split1_sum 120 t
  have h5 : ((split1 120 t).take (p + 1)).length + ((split1 120 t).drop (p + 1)).length = (split1 120 t).length := by simp; omega
  unfold textStep
  simp only [List.length_append]
  omega
theorem text_len (w cells : List Int) : ∀ i, (textN w cells i).length ≤ 1 + 21 * i
  | 0 => by simp [textN]
  | i + 1 => by
    have h1 := text_len w cells i
    have h2 := (step_len (textN w cells i) (w.getD i 0).toNat (nodeB (cells.getD i 0) i)).1
    have h3 := node_len (cells.getD i 0) i
    unfold textN
    omega
theorem text_call (P : PG c) (w cells : List Int) (hv : Valid w) (hc : cells.length = 9) (h0 : ∀ v ∈ cells, 0 ≤ v) (h1 : ∀ v ∈ cells, v ≤ 3000) : CALL c (k + 2) (.ref 193) [IL w, IL cells] (.bytes (textN w cells 6)) := by
  refine P.textF.enter rfl fun O₀ L cd => ?_
  refine XS.cast (ρ₁ := [("word", .val (IL w)), ("cells", .val (IL cells))]) rfl ?_
  refine XS.assign (d := .bytes [120]) EV.bytesC (by walk_at "kind") ?_
  walk_at "set"
  refine XS.seq (ρ₁ := [("text", .val (.bytes (textN w cells 6)))]) ?_ (XS.ret (by walk_at "frz") (by walk_at "ev"))
  refine (XT.for_ (dv := .range 0 6 1) (ds := rangeL 0 6 1) (fun i => [("word", .val (IL w)), ("cells", .val (IL cells)), ("text", .val (.bytes (textN w cells i)))]) ?_ (ITER.range (by decide) (size_le 6)) (by walk_at "kind") rfl ?_).drop ?_
  · exact EV.callTy P.brange CALL.range1 (EVs.cons (by walk_at "ev") EVs.nil) (by walk_at "kind")
  · intro i d hd
    have hi : i < 6 ∧ d = .int (i : Int) := by
      rw [show rangeL 0 6 1 = rangeL 0 (6 : Nat) 1 from rfl, rangeL_is, List.getElem?_map] at hd
      obtain ⟨j, hj, rfl⟩ := Option.map_eq_some_iff.mp hd
      obtain ⟨h1, h2⟩ := range_get hj
      exact ⟨h1, by rw [h2]⟩
    obtain ⟨hi, rfl⟩ := hi
    have hwv := hv.2 i hi
    have hw6 := hv.1
    have htl := text_len w cells i
    rw [show textN w cells (i + 1) = textStep (textN w cells i) (w.getD i 0).toNat (nodeB (cells.getD i 0) i) from rfl]
    generalize textN w cells i = T at *
    have hci : EV c (k + 1) (envOfC "_law_text" (scopeAt 25) L 193 cd) O₀ [] (.Name "word" default) (.int 0) → True := fun _ => trivial
    have hvm : cells.getD i 0 ∈ cells := by
      rw [List.getD_eq_getElem?_getD, List.getElem?_eq_getElem (by omega)]
      exact List.getElem_mem _
    have hv0 := h0 _ hvm
    have hv1 := h1 _ hvm
    have hgc : (cells.map D.int)[(i : Int).toNat]? = some (.int (cells.getD i 0)) := by rw [Int.toNat_natCast]; exact ints_get (by omega)
    have hgw : (w.map D.int)[(i : Int).toNat]? = some (.int (w.getD i 0)) := by rw [Int.toNat_natCast]; exact ints_get (by omega)
    generalize cells.getD i 0 = v at *
    generalize w.getD i 0 = lf at *
    obtain ⟨f, rfl⟩ := Int.eq_ofNat_of_zero_le hwv.1
    simp only [Int.toNat_natCast]
    obtain ⟨sl1, sl2, sl3⟩ := step_len T f (nodeB v i)
    have hnl := node_len v i
    have hsum := split1_sum 120 T
    walk_at "set"
    refine XS.assign (d := .bytes (quoB v)) ?_ (by walk_at "kind") ?_
    · have hq : ∀ j, j < 3 → (quoL.map D.bytes)[j]? = some (.bytes (quoL.getD j [])) := by
        intro j hj
        match j, hj with
        | 0, _ => rfl
        | 1, _ => rfl
        | 2, _ => rfl
      refine EV.item (i := v / 7 % 3) (ds := quoL.map .bytes) (EV.listD (EVs.cons EV.bytesC (EVs.cons EV.bytesC (EVs.cons EV.bytesC EVs.nil))) (by decide)) (EV.mod' (EV.div' (EV.item (i := (i : Int)) (ds := cells.map .int) (by walk_at "ev") (by walk_at "ev") (by omega) hgc (by simp [hc])) (by walk_at "ev") (by decide) (by decide)) (by walk_at "ev") (by decide)) (by omega) (hq _ (by omega)) (by decide)
    walk_at "set"
    refine XS.assign (d := .bytes (nameB v i)) ?_ (by walk_at "kind") ?_
    · have hz : ((8 * v + i + 1) * (1 - 2 * ((i : Int) % 2))).natAbs = (8 * v + i + 1).toNat := by
        rcases Nat.mod_two_eq_zero_or_one i with h | h
        · have : (i : Int) % 2 = 0 := by omega
          rw [this]; omega
        · have : (i : Int) % 2 = 1 := by omega
          rw [this]; omega
      have := ap_call (k := k) P ((8 * v + i + 1) * (1 - 2 * ((i : Int) % 2))) (by rw [hz]; omega)
      rw [hz] at this
      refine EV.callF P.apF P.gap this (EVs.cons ?_ EVs.nil) (by walk_at "kind")
      refine EV.mul_int (EV.add_int (EV.add_int (EV.mul_int (by walk_at "ev") (EV.item (i := (i : Int)) (ds := cells.map .int) (by walk_at "ev") (by walk_at "ev") (by omega) hgc (by simp [hc])) (IntMulOk.of_left (by decide))) (by walk_at "ev")) (by walk_at "ev"))
        (EV.sub_int (by walk_at "ev") (EV.mul_int (by walk_at "ev") (EV.mod' (by walk_at "ev") (by walk_at "ev") (by decide)) (IntMulOk.of_left (by decide)))) (IntMulOk.of_right (intBits_le_64 (by omega) (by omega)))
    walk_at "set"
    refine XS.assign (d := .list ((split1 120 T).map .bytes)) ?_ (by walk_at "kind") ?_
    · exact EV.meth1 (T := "bytes") (d1 := .bytes T) (d2 := .bytes [120]) (by walk_at "ev") EV.bytesC rfl FB.plainAttrs_bytes slot_bytes_split type_bytes_split (CALL.bsplit (by omega))
    walk_at "set"
    have hsl := (split1_short 120 T).1
    refine XS.assign (d := .bytes (joinB 120 ((split1 120 T).take (f + 1)))) ?_ (by walk_at "kind") ?_
    · refine EV.meth1 (T := "bytes") (d1 := .bytes [120]) (d2 := .list (((split1 120 T).take (f + 1)).map .bytes)) EV.bytesC ?_ rfl FB.plainAttrs_bytes slot_bytes_join type_bytes_join (CALL.bjoin (by omega))
      have e : D.list (((split1 120 T).take (f + 1)).map .bytes) = .list (pickD ((split1 120 T).map .bytes) none (some ((f + 1 : Nat) : Int)) none) := by rw [pickD_upto, List.map_take]
      rw [e]
      refine EV.slice (by walk_at "ev") trivial (show EV c (k + 1) _ _ _ _ _ from ?_) (by simp; omega)
      rw [show ((f + 1 : Nat) : Int) = (f : Int) + 1 from rfl]
      exact EV.add_int (EV.item (i := (i : Int)) (ds := w.map .int) (by walk_at "ev") (by walk_at "ev") (by omega) hgw (by simp [hw6])) (by walk_at "ev")
    walk_at "set"
    refine XS.assign (d := .bytes (joinB 120 ((split1 120 T).drop (f + 1)))) ?_ (by walk_at "kind") ?_
    · refine EV.meth1 (T := "bytes") (d1 := .bytes [120]) (d2 := .list (((split1 120 T).drop (f + 1)).map .bytes)) EV.bytesC ?_ rfl FB.plainAttrs_bytes slot_bytes_join type_bytes_join (CALL.bjoin (by omega))
      have e : D.list (((split1 120 T).drop (f + 1)).map .bytes) = .list (pickD ((split1 120 T).map .bytes) (some ((f + 1 : Nat) : Int)) none none) := by rw [pickD_from, List.map_drop]
      rw [e]
      refine EV.slice (by walk_at "ev") (show EV c (k + 1) _ _ _ _ _ from ?_) trivial (by simp; omega)
      rw [show ((f + 1 : Nat) : Int) = (f : Int) + 1 from rfl]
      exact EV.add_int (EV.item (i := (i : Int)) (ds := w.map .int) (by walk_at "ev") (by walk_at "ev") (by omega) hgw (by simp [hw6])) (by walk_at "ev")
    walk_at "set"
    refine XS.assign (d := .bytes (textStep T f (nodeB v i))) ?_ (by walk_at "kind") ?_
    · have e : textStep T f (nodeB v i) = (((((joinB 120 ((split1 120 T).take (f + 1)) ++ [40]) ++ quoB v) ++ [47]) ++ nameB v i) ++ [47, 120, 120, 41]) ++ joinB 120 ((split1 120 T).drop (f + 1)) := by
        unfold textStep nodeB
        simp
      have ej1 := joinB_len 120 ((split1 120 T).take (f + 1))
      have ej2 := joinB_len 120 ((split1 120 T).drop (f + 1))
      have hn2 : (quoB v).length + (nameB v i).length ≤ 20 := by
        have := node_len v i
        unfold nodeB at this
        simp at this; omega
      rw [e]
      generalize joinB 120 ((split1 120 T).take (f + 1)) = J1 at *
      generalize joinB 120 ((split1 120 T).drop (f + 1)) = J2 at *
      refine EV.add_bytes (EV.add_bytes (EV.add_bytes (EV.add_bytes (EV.add_bytes (EV.add_bytes ?_ EV.bytesC ?_) ?_ ?_) EV.bytesC ?_) ?_ ?_) EV.bytesC ?_) ?_ ?_
      · walk_at "ev"
      · simp; omega
      · walk_at "ev"
      · simp; omega
      · simp; omega
      · walk_at "ev"
      · simp; omega
      · simp; omega
      · walk_at "ev"
      · simp; omega
    walk_at "set"
    exact XS.nilDrop (by walk_at "sub")
  · rw [rangeL_length]
    show List.Sublist _ ([("word", Ent.val (IL w)), ("cells", Ent.val (IL cells)), ("text", Ent.val (.bytes (textN w cells 6)))] : List (Str × Ent))
    walk_at "sub"
end Mine
end
section -- F8
open PySem PySem.W PyProof.Rows PySem.Calls
set_option Elab.async false
set_option linter.all false
set_option maxRecDepth 100000
namespace Mine
variable {c : Cx} {k : Nat}
noncomputable def hexVal (l : List UInt8) : Int := l.foldl (fun a x => 16 * a + (x.toNat : Int) - 65) 0
theorem hex_nib : ∀ f n, n < 16 ^ f → hexVal (((nib f n).map encB).reverse) = n
  | 0, n, h => by
    have : n = 0 := by simpa using h
    subst this; rfl
  | f + 1, n, h => by
    unfold nib
    by_cases h0 : n = 0
    · subst h0; rfl
    · rw [if_neg h0, List.map_cons, List.reverse_cons]
      have h' : n / 16 < 16 ^ f := by
        rw [Nat.div_lt_iff_lt_mul (by decide)]; rw [Nat.pow_succ] at h; exact h
      have ih := hex_nib f (n / 16) h'
      unfold hexVal at ih ⊢
      rw [List.foldl_append, ih]
      have e : ∀ m, m < 16 → ((encB m).toNat : Int) = 65 + m := by decide
      simp only [List.foldl_cons, List.foldl_nil]
      rw [e _ (Nat.mod_lt _ (by decide))]
      omega
theorem hex_name {n : Nat} (h : n < 16 ^ 8) : hexVal (apOf n) = n := hex_nib 8 n h
theorem nib_last : ∀ f n, n < 16 ^ f → 0 < n → ∃ d l, nib f n = l ++ [d] ∧ d ≠ 0 ∧ d < 16
  | 0, n, h, h0 => by simp at h; omega
  | f + 1, n, h, h0 => by
    unfold nib
    rw [if_neg (by omega)]
    have h' : n / 16 < 16 ^ f := by
      rw [Nat.div_lt_iff_lt_mul (by decide)]; rw [Nat.pow_succ] at h; exact h
    by_cases hz : n / 16 = 0
    · refine ⟨n % 16, [], ?_, by omega, Nat.mod_lt _ (by decide)⟩
      rw [hz]
      cases f <;> simp [nib]
    · obtain ⟨d, l, e, h1, h2⟩ := nib_last f (n / 16) h' (by omega)
      exact ⟨d, n % 16 :: l, by rw [e]; rfl, h1, h2⟩
theorem name_head {n : Nat} (h : n < 16 ^ 8) (h0 : 0 < n) : ∃ x r, apOf n = x :: r ∧ ((x.toNat : Int) == 65) = false := by
  obtain ⟨d, l, e, h1, h2⟩ := nib_last 8 n h h0
  refine ⟨encB d, ((l.map encB)).reverse, ?_, ?_⟩
  · unfold apOf
    rw [e]; simp
  · have : ∀ d, d < 16 → d ≠ 0 → (((encB d).toNat : Int) == 65) = false := by decide
    exact this d h2 h1
theorem ap_len (n : Nat) : (apOf n).length ≤ 8 := by simpa [apOf] using nib_len 8 n
noncomputable def dueN (ps : List (List UInt8)) : Nat → Nat
  | 0 => 0
  | j + 1 => dueN ps j + (ps.getD (2 * j) []).count 120
theorem names_call (P : PG c) (T : List UInt8) (cells : List Int) (o : Nat → Nat) (hT : T.length ≤ 1000) (hc : cells.length = 9) (h0 : ∀ v ∈ cells, 0 ≤ v) (h1 : ∀ v ∈ cells, v ≤ 3000)
    (hl : 12 < (split1 47 T).length) (ho : ∀ j, j < 6 → o j < 6 ∧ (split1 47 T).getD (2 * j + 1) [] = nameB (cells.getD (o j) 0) (o j)) :
    CALL c (k + 1) (.ref 200) [.bytes T, IL cells] (.tup [IL ((List.range 6).map fun j => ((o j : Nat) : Int)), IL ((List.range 6).map fun j => ((dueN (split1 47 T) (j + 1) : Nat) : Int))]) := by
  refine P.namesF.enter rfl fun O₀ L cd => ?_
  refine XS.cast (ρ₁ := [("text", .val (.bytes T)), ("cells", .val (IL cells))]) rfl ?_
  refine XS.assignApp (ds := []) (EVnew.list EVs.nil) (by walk_at "kind") (by simp) fun a1 => ?_
  walk_at "set"
  refine XS.assignApp (ds := []) (EVnew.list EVs.nil) (by walk_at "kind") (by simp) fun a2 => ?_
  walk_at "set"
  refine XS.assign (d := .int 0) (by walk_at "ev") (by walk_at "kind") ?_
  walk_at "set"
  refine XS.assign (d := .list ((split1 47 T).map .bytes)) ?_ (by walk_at "kind") ?_
  · exact EV.meth1 (T := "bytes") (d1 := .bytes T) (d2 := .bytes [47]) (by walk_at "ev") EV.bytesC rfl FB.plainAttrs_bytes slot_bytes_split type_bytes_split (CALL.bsplit (by omega))
  walk_at "set"
  obtain ⟨hsl, hshort⟩ := split1_short 47 T
  generalize hps : split1 47 T = ps at *
  have hget : ∀ j, j < ps.length → (ps.map D.bytes)[j]? = some (.bytes (ps.getD j [])) := fun j hj => by
    rw [List.getElem?_map, List.getD_eq_getElem?_getD, List.getElem?_eq_getElem hj]; rfl
  refine XS.seq (XT.for_ (dv := .range 1 13 2) (ds := rangeL 1 13 2) (fun i => [("text", .val (.bytes T)), ("cells", .val (IL cells)), ("order", .app a1 (((List.range i).map fun j => ((o j : Nat) : Int)).map .int)), ("due", .app a2 (((List.range i).map fun j => ((dueN ps (j + 1) : Nat) : Int)).map .int)), ("ahead", .val (.int (dueN ps i : Nat))), ("pieces", .val (.list (ps.map .bytes)))]) ?_ (ITER.range (by decide) (by decide)) (by walk_at "kind") rfl ?_) ?_
  · exact EV.callTy P.brange (CALL.range3 (by decide) (noPy (by decide))) (EVs.cons (by walk_at "ev") (EVs.cons (by walk_at "ev") (EVs.cons (by walk_at "ev") EVs.nil))) (by walk_at "kind")
  · intro i d hd
    have hi : i < 6 ∧ d = .int (2 * (i : Int) + 1) := by
      unfold rangeL at hd
      rw [List.getElem?_map] at hd
      obtain ⟨j, hj, rfl⟩ := Option.map_eq_some_iff.mp hd
      obtain ⟨h1, h2⟩ := range_get hj
      exact ⟨h1, by rw [h2]; congr 1; omega⟩
    obtain ⟨hi, rfl⟩ := hi
    obtain ⟨ho1, ho2⟩ := ho i hi
    have hvm : cells.getD (o i) 0 ∈ cells := by
      rw [List.getD_eq_getElem?_getD, List.getElem?_eq_getElem (by omega)]
      exact List.getElem_mem _
    have hv0 := h0 _ hvm
    have hv1 := h1 _ hvm
    have hgo : (cells.map D.int)[((o i : Nat) : Int).toNat]? = some (.int (cells.getD (o i) 0)) := by rw [Int.toNat_natCast]; exact ints_get (by omega)
    have hrl : ∀ (g : Nat → Int), ((List.range (i + 1)).map g).map D.int = ((List.range i).map g).map D.int ++ [.int (g i)] := fun g => by rw [List.range_succ]; simp
    rw [hrl, hrl, show dueN ps (i + 1) = dueN ps i + (ps.getD (2 * i) []).count 120 from rfl]
    have hOLl : ((List.range i).map fun j => ((o j : Nat) : Int)).length ≤ 6 := by simp; omega
    generalize ((List.range i).map fun j => ((o j : Nat) : Int)) = OL at *
    have hDL : (((List.range i).map fun j => ((dueN ps (j + 1) : Nat) : Int)).map D.int).length ≤ 6 := by simp; omega
    generalize (((List.range i).map fun j => ((dueN ps (j + 1) : Nat) : Int)).map D.int) = DL at *
    generalize dueN ps i = dn at *
    generalize hoi : o i = oi at *
    generalize hcv : cells.getD oi 0 = v at *
    have hnm : nameB v oi = apOf (8 * v + oi + 1).toNat := rfl
    obtain ⟨m, hm⟩ : ∃ m : Nat, 8 * v + oi + 1 = (m : Int) := ⟨(8 * v + oi + 1).toNat, by omega⟩
    have hmb : m < 16 ^ 8 := by omega
    rw [hnm, hm, Int.toNat_natCast] at ho2
    have hap := ap_len m
    obtain ⟨x0, r0, hx0, hx1⟩ := name_head hmb (by omega)
    have hxv := hex_name hmb
    have hp1 : (ps.map D.bytes)[(2 * (i : Int) + 1).toNat]? = some (.bytes (apOf m)) := by
      rw [show (2 * (i : Int) + 1).toNat = 2 * i + 1 by omega, hget _ (by omega), ho2]
    have hp0 : (ps.map D.bytes)[(2 * (i : Int) + 1 - 1).toNat]? = some (.bytes (ps.getD (2 * i) [])) := by
      rw [show (2 * (i : Int) + 1 - 1).toNat = 2 * i by omega, hget _ (by omega)]
    have hpl : (ps.map D.bytes).length ≤ 16777216 := by simp; omega
    generalize ps.getD (2 * i) [] = pc at *
    generalize hpd : ps.map D.bytes = PD at *
    walk_at "set"
    refine XS.seq (XT.augInt (a := (dn : Nat)) (b := (pc.count 120 : Nat)) (by walk_at "mem") ?_ (by walk_at "kind")) ?_
    · refine EV.meth1 (T := "bytes") (d1 := .bytes pc) (d2 := .bytes [120]) (EV.item (i := 2 * (i : Int) + 1 - 1) (ds := PD) (by walk_at "ev") (EV.sub_int (by walk_at "ev") (by walk_at "ev")) (by omega) hp0 hpl) EV.bytesC rfl FB.plainAttrs_bytes slot_bytes_count type_bytes_count CALL.bcount
    walk_at "set"
    refine XS.seq (XT.append (a := a2) (ds := DL) (d := .int ((dn : Int) + (pc.count 120 : Nat))) (by walk_at "mem") (by walk_at "ev") rfl (by omega)) ?_
    walk_at "set"
    refine XS.assign (d := .int 0) (by walk_at "ev") (by walk_at "kind") ?_
    walk_at "set"
    refine XS.seq (XT.for_ (dv := .bytes (apOf m)) (ds := (apOf m).map fun x => .int (x.toNat : Int)) (fun t => [("text", .val (.bytes T)), ("cells", .val (IL cells)), ("order", .app a1 (OL.map .int)), ("due", .app a2 (DL ++ [.int ((dn : Int) + (pc.count 120 : Nat))])), ("ahead", .val (.int ((dn : Int) + (pc.count 120 : Nat)))), ("pieces", .val (.list PD)), ("k", .val (.int (2 * (i : Int) + 1))), ("value", .val (.int (hexVal ((apOf m).take t))))]) ?_ ITER.bytes (by walk_at "kind") rfl ?_) ?_
    · exact EV.item (i := 2 * (i : Int) + 1) (ds := PD) (by walk_at "ev") (by walk_at "ev") (by omega) hp1 hpl
    · intro t d hd
      rw [List.getElem?_map] at hd
      obtain ⟨x, hx, rfl⟩ := Option.map_eq_some_iff.mp hd
      have e : hexVal ((apOf m).take (t + 1)) = 16 * hexVal ((apOf m).take t) + (x.toNat : Int) - 65 := by
        unfold hexVal
        rw [List.take_succ, hx, List.foldl_append]; rfl
      rw [e]
      generalize hexVal ((apOf m).take t) = hv at *
      walk_at "set"
      refine XS.assign (d := .int (16 * hv + (x.toNat : Int) - 65)) ?_ (by walk_at "kind") ?_
      · exact EV.sub_int (EV.add_int (EV.mul_int (by walk_at "ev") (by walk_at "ev") (IntMulOk.of_left (by decide))) (by walk_at "ev")) (by walk_at "ev")
      walk_at "set"
      exact XS.nilDrop (by walk_at "sub")
    rw [List.length_map, List.take_length, hxv]
    refine XS.assign (d := .int (oi : Nat)) ?_ (by walk_at "kind") ?_
    · have e : ((oi : Nat) : Int) = ((m : Int) - 1) % 8 := by omega
      rw [e]
      exact EV.mod' (EV.sub_int (by walk_at "ev") (by walk_at "ev")) (by walk_at "ev") (by decide)
    walk_at "set"
    refine XS.seq (XT.iff (b := ((m : Int) != 8 * v + oi + 1) || ((x0.toNat : Int) == 65)) (EB.or (EB.cmp ?_ ?_ CMP.neInt) fun _ => EB.cmp ?_ (by walk_at "ev") CMP.eqInt) (fun h => ?_) (fun h => XS.nil)) ?_
    · walk_at "ev"
    · exact EV.add_int (EV.add_int (EV.mul_int (by walk_at "ev") (EV.item (i := (oi : Int)) (ds := cells.map .int) (by walk_at "ev") (by walk_at "ev") (by omega) hgo (by simp [hc])) (IntMulOk.of_left (by decide))) (by walk_at "ev")) (by walk_at "ev")
    · have e0 : ((apOf m).getD (0 : Int).toNat 0) = x0 := by rw [hx0]; rfl
      rw [← e0]
      refine EV.itemBytes (i := 0) (EV.item (i := 2 * (i : Int) + 1) (ds := PD) (by walk_at "ev") (by walk_at "ev") (by omega) hp1 hpl) (by walk_at "ev") (by decide) (by rw [hx0]; simp) (by omega)
    · rw [hm, hx1] at h; simp at h
    refine XS.seq (XT.append (a := a1) (ds := OL.map .int) (d := .int (oi : Nat)) (by walk_at "mem") (by walk_at "ev") rfl ?_) ?_
    · rw [List.length_map]; omega
    walk_at "set"
    rw [show ((dn + pc.count 120 : Nat) : Int) = (dn : Int) + (pc.count 120 : Nat) from rfl]
    exact XS.nilDrop (by walk_at "sub")
  · rw [show (rangeL 1 13 2).length = 6 from rfl]
    refine XS.ret (by walk_at "frz") ?_
    show EV c k _ _ _ _ (.tup [IL ((List.range 6).map fun j => ((o j : Nat) : Int)), IL ((List.range 6).map fun j => ((dueN ps (j + 1) : Nat) : Int))])
    refine EV.tupD (EVs.cons ?_ (EVs.cons ?_ EVs.nil)) (by simp)
    · walk_at "ev"
    · walk_at "ev"
end Mine
end
section -- F9
open PySem PySem.W PyProof.Rows PySem.Calls
set_option Elab.async false
set_option linter.all false
set_option maxRecDepth 100000
namespace Mine
variable {c : Cx} {k : Nat}
theorem XS.seqS {env : Env} {O₀ : Addr → Prop} {ρ : List (Str × Ent)} {st : Stmt} {rest : List Stmt} {r : Out} (x : Str) (e : Ent) (h1 : XT c k env O₀ ρ st (.next (setV ρ x e))) (h2 : XS c k env O₀ (setV ρ x e) rest r) : XS c k env O₀ ρ (st :: rest) r := XS.seq h1 h2
noncomputable def turnedL (o : Nat → Nat) : List Bool := (List.range 6).flatMap fun b => (List.range b).map fun a => decide (o b < o a)
noncomputable def dueL (T : List UInt8) : List Int := (List.range 6).map fun j => ((dueN (split1 47 T) (j + 1) : Nat) : Int)
theorem ints_eq_false {a b : List Int} (h : a = b) : (!decide (a = b)) = false := by simp [h]
set_option maxHeartbeats 1000000 in
theorem grown_call {N : Nat} (P : PG c) (w cells : List Int) (T : List UInt8) (o : Nat → Nat) (dp : Nat → Int) (n : Nat) (hv : Valid w) (hc : cells.length = 9) (h0 : ∀ v ∈ cells, 0 ≤ v) (h1 : ∀ v ∈ cells, v ≤ 3000) (hTT : textN w cells 6 = T)
    (heard : CALLn N c (k + 10) (.ref 179) [IL w, IL cells] (IL w))
    (mail : ∀ w, Valid w → CALL c (k + 10) (.ref 186) [IL w] (SL (rowsOf w)))
    (hps : (split1 120 T).length = 8) (hdp0 : dp 0 = 0) (hdp8 : dp 8 = 0) (depth : ∀ j, j < 8 → CALL c (k + 10) (.ref 44) [.bytes ((split1 120 T).getD j []), .int (dp j)] (.int (dp (j + 1))))
    (hl : 12 < (split1 47 T).length) (ho : ∀ j, j < 6 → o j < 6 ∧ (split1 47 T).getD (2 * j + 1) [] = nameB (cells.getD (o j) 0) (o j))
    (hrow : ∀ j, j < 7 → 0 ≤ dp (j + 1) ∧ (rowN w 6).getD j 0 = (dp (j + 1)).toNat + 1)
    (hn : ∀ i, i < n → fallsOf (setl cells w i) ≠ []) (he : fallsOf (setl cells w n) = []) (hset : setl cells w n = dueL T) (hcount : n = (turnedL o).count true) (hv2 : Valid (setl cells w n)) (hrows2 : rowsOf (setl cells w n) = rowsOf w) :
    CALLn N c (k + 11) (.ref 210) [IL w, IL cells] (.tup [SL (rowsOf w), IL (setl cells w n)]) := by
  have hTl : T.length ≤ 1000 := by rw [← hTT]; have := text_len w cells 6; omega
  refine P.grownF.enterN rfl fun O₀ L cd => ?_
  refine XSn.cast (ρ₁ := [("drawn", .val (IL w)), ("cells", .val (IL cells))]) rfl ?_
  refine XSn.assign (d := IL w) ?_ (by walk_at "kind") ?_
  · exact EVn.callF P.heardF P.gheard heard (EVs.cons (by walk_at "ev") (EVs.cons (by walk_at "ev") EVs.nil)) (by walk_at "kind")
  walk_at "set"
  refine XSn.of ?_
  refine XS.assign (d := .bytes T) ?_ (by walk_at "kind") ?_
  · rw [← hTT]
    exact EV.callF P.textF P.gtext (text_call (k := k + 8) P w cells hv hc h0 h1) (EVs.cons (by walk_at "ev") (EVs.cons (by walk_at "ev") EVs.nil)) (by walk_at "kind")
  walk_at "set"
  refine XS.assign (d := SL (rowsOf w)) ?_ (by walk_at "kind") ?_
  · exact EV.callF P.mailF P.gmail (mail w hv) (EVs.cons (by walk_at "ev") EVs.nil) (by walk_at "kind")
  walk_at "set"
  refine XS.assignApp (ds := [.int 0]) (EVnew.list (EVs.cons (by walk_at "ev") EVs.nil)) (by walk_at "kind") (by simp [D.flat]) fun a => ?_
  walk_at "set"
  generalize hpp : split1 120 T = ps at *
  have hps8 : ps.length = 8 := hps
  have hDl : ∀ i, (((List.range (i + 1)).map dp).map D.int).length = i + 1 := fun i => by simp
  have hDg : ∀ i j, j < i + 1 → (((List.range (i + 1)).map dp).map D.int)[j]? = some (.int (dp j)) := fun i j hj => by
    rw [List.getElem?_map, List.getElem?_map, List.getElem?_range hj]; rfl
  refine XS.seq (XT.for_ (dv := .list (ps.map .bytes)) (ds := ps.map .bytes) (fun i => [("drawn", .val (IL w)), ("cells", .val (IL cells)), ("word", .val (IL w)), ("text", .val (.bytes T)), ("rows", .val (SL (rowsOf w))), ("deeps", .app a (((List.range (i + 1)).map dp).map .int))]) ?_ (ITER.list ?_) (by walk_at "kind") ?_ ?_) ?_
  · rw [← hpp]
    exact EV.meth1 (T := "bytes") (d1 := .bytes T) (d2 := .bytes [120]) (by walk_at "ev") EV.bytesC rfl FB.plainAttrs_bytes slot_bytes_split type_bytes_split (CALL.bsplit (by omega))
  · intro d hd
    obtain ⟨z, _, rfl⟩ := List.mem_map.mp hd; rfl
  · simp [hdp0]
  · intro i d hd
    rw [List.getElem?_map] at hd
    obtain ⟨p, hp, rfl⟩ := Option.map_eq_some_iff.mp hd
    have hi : i < 8 := by have := (List.getElem?_eq_some_iff.mp hp).1; omega
    have hpd : ps.getD i [] = p := by rw [List.getD_eq_getElem?_getD, hp]; rfl
    have hdep := depth i hi
    rw [hpd] at hdep
    have hDi := hDl i
    have hDgi := hDg i i (by omega)
    have hrl : ((List.range (i + 1 + 1)).map dp).map D.int = ((List.range (i + 1)).map dp).map D.int ++ [.int (dp (i + 1))] := by rw [List.range_succ]; simp
    rw [hrl]
    generalize ((List.range (i + 1)).map dp).map D.int = DL at *
    walk_at "set"
    refine XS.seq (XT.append (a := a) (ds := DL) (d := .int (dp (i + 1))) (by walk_at "mem") ?_ rfl (by omega)) ?_
    · refine EV.callG P.depthK P.gdepth hdep (EVs.cons (by walk_at "ev") (EVs.cons ?_ EVs.nil)) (by walk_at "kind")
      exact EV.itemOwnNeg (i := -1) (ds := DL) (e := .app a DL) (by walk_at "mem") (EV.neg (by walk_at "ev")) (by decide) (by omega) (by rw [hDi, show (-1 + ((i + 1 : Nat) : Int)).toNat = i by omega]; exact hDgi) (by omega) (.inr rfl)
    walk_at "set"
    exact XS.nilDrop (by walk_at "sub")
  rw [List.length_map, hps8]
  refine XS.frz (by walk_at "frz") ?_
  have hD8 := hDl 8
  have hg8 := hDg 8 8 (by omega)
  have hslice : pickD (((List.range (8 + 1)).map dp).map D.int) (some ((1 : Nat) : Int)) (some ((8 : Nat) : Int)) none = ((List.range 7).map fun j => dp (j + 1)).map .int := by
    rw [pickD_mid]; rfl
  generalize ((List.range (8 + 1)).map dp).map D.int = DL at *
  refine XS.assign (d := .tup [IL ((List.range 6).map fun j => ((o j : Nat) : Int)), IL (dueL T)]) ?_ (by walk_at "kind") ?_
  · exact EV.callF P.namesF P.gnames (names_call (k := k + 9) P T cells o hTl hc h0 h1 hl ho) (EVs.cons (by walk_at "ev") (EVs.cons (by walk_at "ev") EVs.nil)) (by walk_at "kind")
  walk_at "set"
  refine XS.seq (XT.iff (b := (!decide (w = w)) || false || (dp 8 != 0)) (EB.or3 (EB.cmp (dl := IL w) (dr := IL w) (by walk_at "ev") (by walk_at "ev") (CMP.neInts (k := k + 7))) (fun _ => EB.cmp (dl := .tup [IL ((List.range 6).map fun j => ((o j : Nat) : Int)), IL (dueL T)]) (by walk_at "ev") EV.noneC CMP.isNone) fun _ _ => EB.cmp ?_ (by walk_at "ev") CMP.neInt) (fun h => ?_) (fun h => XS.nil)) ?_
  · exact EV.item (i := 8) (ds := DL) (by walk_at "ev") (by walk_at "ev") (by decide) hg8 (by omega)
  · rw [hdp8] at h; simp at h
  have hrl := (rowN_spec hv 6 (by omega)).1
  have ok : ∀ s ∈ rowsOf w, PyData.strOk ⟨s.toArray⟩ = true := fun s hs => by
    unfold rowsOf at hs
    obtain ⟨n, _, rfl⟩ := List.mem_map.mp hs
    exact strOk_dots n
  refine XS.seq (XT.iff (b := !decide (rowsOf w = rowsOf w)) (EB.cmp (dl := SL (rowsOf w)) (dr := SL (rowsOf w)) (by walk_at "ev") ?_ (CMP.neStrs (k := k + 7) ok ok)) (fun h => by simp at h) (fun h => XS.nil)) ?_
  · have e : SL (rowsOf w) = .list (((pickD DL (some ((1 : Nat) : Int)) (some ((8 : Nat) : Int)) none).filter fun _ => true).map fun d => .str (dots (d.i + 1).toNat)) := by
      rw [map_filter_true, hslice, List.map_map, List.map_map]
      unfold rowsOf SL
      rw [List.map_map]
      refine congrArg D.list ?_
      apply List.ext_getElem?
      intro j
      rw [List.getElem?_map, List.getElem?_map]
      by_cases hj : j < 7
      · have := hrow j hj
        rw [List.getElem?_range hj]
        rw [List.getD_eq_getElem?_getD, List.getElem?_eq_getElem (by omega)] at this
        rw [List.getElem?_eq_getElem (by omega)]
        show some (D.str (dots _)) = some (D.str (dots (dp (j + 1) + 1).toNat))
        have h2 : (rowN w 6)[j] = (dp (j + 1)).toNat + 1 := this.2
        rw [h2, show (dp (j + 1) + 1).toNat = (dp (j + 1)).toNat + 1 by omega]
      · rw [List.getElem?_eq_none (by omega), List.getElem?_eq_none (by simp; omega)]; rfl
    rw [e]
    refine EV.comp (ρ' := []) _ _ (CompOk.mk' (ns := []) rfl (by walk_at "sub") (by decide +kernel) (fun x hx => nomatch hx)) (EV.slice (lo := some ((1 : Nat) : Int)) (hi := some ((8 : Nat) : Int)) (by walk_at "ev") (show EV c (k + 10) _ _ _ _ _ from EV.intC) (show EV c (k + 10) _ _ _ _ _ from EV.intC) (by omega)) (ITER.list fun d hd => ?_) ?_ (fun C d hd => rfl) (fun C d hd _ => ?_) (fun d hd _ => rfl)
    · rw [hslice] at hd
      obtain ⟨z, _, rfl⟩ := List.mem_map.mp hd; rfl
    · rw [hslice]; simp
    · rw [hslice] at hd
      obtain ⟨z, hz, rfl⟩ := List.mem_map.mp hd
      obtain ⟨j, hj, rfl⟩ := List.mem_map.mp hz
      have hj : j < 7 := List.mem_range.mp hj
      obtain ⟨hp0, hp1⟩ := hrow j hj
      have hb := (rowN_spec hv 6 (by omega)).2
      have hmem : (rowN w 6).getD j 0 ∈ rowN w 6 := by
        rw [List.getD_eq_getElem?_getD, List.getElem?_eq_getElem (by omega)]
        exact List.getElem_mem _
      have hbj := hb _ hmem
      show EV c (k + 10) _ _ _ _ (.str (dots (dp (j + 1) + 1).toNat))
      have hnb : (dp (j + 1) + 1).toNat ≤ 16777216 := by omega
      refine EV.mul_char (x := 46) (n := (dp (j + 1) + 1).toNat) (EV.strC rfl) ?_ hnb
      rw [Int.toNat_of_nonneg (by omega)]
      repeat' walk_at "ev"
  refine XS.seq (XT.tup2 (d1 := IL (setl cells w n)) (d2 := .int n) ?_ (by walk_at "kind") (by walk_at "kind")) ?_
  · exact EV.callF P.settledF P.gsettled (settled_call (k := k + 5) P w cells hv.1 hc n hn he) (EVs.cons (by walk_at "ev") (EVs.cons (by walk_at "ev") EVs.nil)) (by walk_at "kind")
  refine XS.cast (by with_reducible (simp (disch := decide +kernel) only [setV_hit, setV_miss, setV_nil]; try rfl)) ?_
  refine XS.seq (XT.tup2 (d1 := IL ((List.range 6).map fun j => ((o j : Nat) : Int))) (d2 := IL (dueL T)) (by walk_at "ev") (by walk_at "kind") (by walk_at "kind")) ?_
  refine XS.cast (by with_reducible (simp (disch := decide +kernel) only [setV_hit, setV_miss, setV_nil]; try rfl)) ?_
  have hord : ∀ j, j < 6 → (((List.range 6).map fun j => ((o j : Nat) : Int)).map D.int)[((j : Nat) : Int).toNat]? = some (.int (o j : Nat)) := fun j hj => by
    rw [Int.toNat_natCast, List.getElem?_map, List.getElem?_map, List.getElem?_range hj]; rfl
  have hol : (((List.range 6).map fun j => ((o j : Nat) : Int)).map D.int).length ≤ 16777216 := by simp
  have eT : D.list ((turnedL o).map .bool) = .list ((rangeL 0 6 1).flatMap fun d => (rangeL 0 d.i 1).map fun d' => .bool (decide (((o d.i.toNat : Nat) : Int) < ((o d'.i.toNat : Nat) : Int)))) := by
    refine congrArg D.list ?_
    unfold turnedL
    rw [show rangeL 0 6 1 = rangeL 0 (6 : Nat) 1 from rfl, rangeL_is, List.map_flatMap, List.flatMap_map]
    refine congrArg (fun g => List.flatMap g (List.range 6)) ?_
    funext b
    show _ = (rangeL 0 (b : Int) 1).map _
    rw [rangeL_is, List.map_map, List.map_map]
    refine congrArg (fun g => List.map g (List.range b)) ?_
    funext a
    show D.bool (decide (o b < o a)) = D.bool (decide (((o b : Nat) : Int) < ((o a : Nat) : Int)))
    refine congrArg D.bool ?_
    simp
  refine XS.seqS "turned" (.val (.list ((turnedL o).map .bool))) ?_ ?_
  · rw [eT]
    refine XT.assignComp2 (ρ' := [("order", .val (IL ((List.range 6).map fun j => ((o j : Nat) : Int))))]) (dv := .range 0 6 1) (ds1 := rangeL 0 6 1) (fun d => rangeL 0 d.i 1) (fun d => .range 0 d.i 1) _ rfl (CompOk.mk' (ns := ["order"]) rfl (by walk_at "sub") (by decide +kernel) ?_) (by walk_at "kind") (by decide +kernel) (by decide +kernel) ?_ (ITER.range (by decide) (size_le 6)) ?_ (fun C O d hd => ?_) (fun O d hd => ?_) (fun C O d hd d' hd' => ?_) (fun d hd d' hd' => rfl)
    · show ∀ x ∈ _, List.lookup x (scopeAt 28).names = _
      decide +kernel
    · exact EV.callTy P.brange CALL.range1 (EVs.cons (by walk_at "ev") EVs.nil) (by walk_at "kind")
    · rw [show (rangeL 0 6 1) = [.int 0, .int 1, .int 2, .int 3, .int 4, .int 5] from rfl]
      simp [rangeL, D.i, Builtin.Range.rangeSize]
    · obtain ⟨j, hj, rfl⟩ := rangeL_mem (n := 6) hd
      show EV c (k + 10) _ _ _ _ (.range 0 (j : Int) 1)
      exact EV.callTy P.brange CALL.range1 (EVs.cons (by walk_at "ev") EVs.nil) (by walk_at "kind")
    · obtain ⟨j, hj, rfl⟩ := rangeL_mem (n := 6) hd
      exact ITER.range (by show Builtin.Range.small 0 (j : Int) 1 = true; have : ∀ j : Nat, j < 6 → Builtin.Range.small 0 (j : Int) 1 = true := by decide
                           exact this j hj) (size_le j)
    · obtain ⟨j, hj, rfl⟩ := rangeL_mem (n := 6) hd
      obtain ⟨i, hi, rfl⟩ := rangeL_mem (n := j) hd'
      show EV c (k + 10) _ _ _ _ (.bool (decide (((o j : Nat) : Int) < ((o i : Nat) : Int))))
      refine EV.callF P.gtF P.ggt (gt_call (k := k + 9) P.gtF _ _) (EVs.cons ?_ (EVs.cons ?_ EVs.nil)) (by walk_at "kind")
      · exact EV.item (i := (i : Int)) (ds := ((List.range 6).map fun j => ((o j : Nat) : Int)).map .int) (by walk_at "ev") (by walk_at "ev") (by omega) (hord i (by omega)) hol
      · exact EV.item (i := (j : Int)) (ds := ((List.range 6).map fun j => ((o j : Nat) : Int)).map .int) (by walk_at "ev") (by walk_at "ev") (by omega) (hord j (by omega)) hol
  refine XS.cast (by with_reducible (simp (disch := decide +kernel) only [setV_hit, setV_miss, setV_nil]; try rfl)) ?_
  rw [hset] at *
  refine XS.seq (XT.iff (b := (!decide (dueL T = dueL T)) || ((n : Int) != ((turnedL o).count true : Nat)) || !decide (rowsOf (dueL T) = rowsOf w)) (EB.or3 (EB.cmp (dl := IL (dueL T)) (dr := IL (dueL T)) (by walk_at "ev") (by walk_at "ev") (CMP.neInts (k := k + 7))) (fun _ => EB.cmp (by walk_at "ev") ?_ CMP.neInt) fun _ _ => EB.cmp (dl := SL (rowsOf (dueL T))) (dr := SL (rowsOf w)) ?_ (by walk_at "ev") (CMP.neStrs (k := k + 7) ?_ ok)) (fun h => ?_) (fun h => XS.nil)) ?_
  · exact EV.callF P.countF P.gcount (count_call (k := k + 9) P _) (EVs.cons (by walk_at "ev") (EVs.cons (by walk_at "ev") EVs.nil)) (by walk_at "kind")
  · exact EV.callF P.mailF P.gmail (mail _ hv2) (EVs.cons (by walk_at "ev") EVs.nil) (by walk_at "kind")
  · rw [hrows2]; exact ok
  · rw [hrows2, ← hcount] at h; simp at h
  refine XS.ret (by walk_at "frz") ?_
  exact EV.tupD (EVs.cons (by walk_at "ev") (EVs.cons (by walk_at "ev") EVs.nil)) (by simp)
end Mine
end
section -- F14
open PySem PySem.W PyProof.Rows PySem.Calls
set_option Elab.async false
set_option linter.all false
set_option maxRecDepth 100000
namespace Mine
variable {c : Cx} {k N : Nat}
theorem XTn.cast {env : Env} {O₀ : Addr → Prop} {ρ : List (Str × Ent)} {st : Stmt} {r r' : Out} (h : XTn N c k env O₀ ρ st r) (e : r = r') : XTn N c k env O₀ ρ st r' := e ▸ h
noncomputable def baseL : List Int := [97, 65, 119808, 120224, 120432]
noncomputable def sgL (form : Int) : List (List Nat) := [[], [173], [8203], [65024 + (form % 16).toNat]]
noncomputable def sgOf (form : Int) : List Nat := (sgL form).getD (form % 4).toNat []
noncomputable def ltOf (form wk : Int) : Nat := (baseL.getD (form % 5).toNat 0 + wk).toNat
noncomputable def formOf (cells : List Int) (i : Nat) : Int := cells.getD i 0 / ((i : Int) + 1)
noncomputable def heardT (w cells : List Int) : Nat → List Nat
  | 0 => []
  | i + 1 => heardT w cells i ++ sgOf (formOf cells i) ++ [ltOf (formOf cells i) (w.getD i 0)]
noncomputable def abcL : List Nat := [97, 98, 99, 100, 101, 102, 97, 98, 99, 100, 101, 102]
theorem sg_len (f : Int) : (sgOf f).length ≤ 1 := by
  unfold sgOf sgL
  generalize (f % 4).toNat = j
  match j with
  | 0 => simp
  | 1 => simp
  | 2 => simp
  | 3 => simp
  | j + 4 => simp
theorem heardT_len (w cells : List Int) : ∀ i, (heardT w cells i).length ≤ 2 * i
  | 0 => by simp [heardT]
  | i + 1 => by
    have := heardT_len w cells i
    have := sg_len (formOf cells i)
    unfold heardT
    simp; omega
noncomputable def decL (n : Nat) : Int := if n < 97 then (n : Int) - 65 else if n < 200 then (n : Int) - 97 else ((n : Int) - 119808) % 208
theorem dec_lt (fm x : Int) (h0 : 0 ≤ x) (h5 : x ≤ 5) : decL (ltOf fm x) = x := by
  have hr : (fm % 5).toNat < 5 := by omega
  unfold ltOf
  generalize (fm % 5).toNat = j at hr
  have : j = 0 ∨ j = 1 ∨ j = 2 ∨ j = 3 ∨ j = 4 := by omega
  unfold decL
  rcases this with rfl | rfl | rfl | rfl | rfl
  · have e : baseL.getD 0 0 = 97 := rfl
    rw [e]; split <;> (try split) <;> omega
  · have e : baseL.getD 1 0 = 65 := rfl
    rw [e]; split <;> (try split) <;> omega
  · have e : baseL.getD 2 0 = 119808 := rfl
    rw [e]; split <;> (try split) <;> omega
  · have e : baseL.getD 3 0 = 120224 := rfl
    rw [e]; split <;> (try split) <;> omega
  · have e : baseL.getD 4 0 = 120432 := rfl
    rw [e]; split <;> (try split) <;> omega
noncomputable def lookS (S : Int → Bool) (n : Nat) : Option Int := if S (n : Int) = true then none else some (decL n)
theorem look_all {S : Int → Bool} (sgt : ∀ fm, ∀ n ∈ sgOf fm, S (n : Int) = true) (ltf : ∀ fm x, 0 ≤ x → x ≤ 5 → S (ltOf fm x : Int) = false) {w cells : List Int} (hv : Valid w) : ∀ i, i ≤ 6 → (heardT w cells i).filterMap (lookS S) = w.take i ∧
    ∀ n ∈ heardT w cells i, S (n : Int) = true ∨ ∃ fm x : Int, 0 ≤ x ∧ x ≤ 5 ∧ n = ltOf fm x
  | 0, _ => ⟨rfl, fun n hn => nomatch hn⟩
  | i + 1, h => by
    obtain ⟨h1, h2⟩ := look_all sgt ltf hv (cells := cells) i (by omega)
    have hw := hv.2 i (by omega)
    have hl := hv.1
    unfold heardT
    refine ⟨?_, fun n hn => ?_⟩
    · rw [List.filterMap_append, List.filterMap_append, h1]
      have e1 : (sgOf (formOf cells i)).filterMap (lookS S) = [] := by
        rw [List.filterMap_eq_nil_iff]
        intro n hn
        unfold lookS
        rw [if_pos (sgt _ n hn)]
      have e2 : lookS S (ltOf (formOf cells i) (w.getD i 0)) = some (w.getD i 0) := by
        unfold lookS
        rw [ltf _ _ hw.1 (by omega), dec_lt _ _ hw.1 (by omega)]
        simp
      rw [e1, List.append_nil, List.filterMap_cons, e2, List.filterMap_nil, List.take_succ, List.getElem?_eq_getElem (by omega)]
      rw [List.getD_eq_getElem?_getD, List.getElem?_eq_getElem (by omega)]
      rfl
    · rcases List.mem_append.mp hn with q | q
      · rcases List.mem_append.mp q with q | q
        · exact h2 n q
        · exact .inl (sgt _ n q)
      · exact .inr ⟨_, _, hw.1, by omega, List.mem_singleton.mp q⟩
theorem heard_call (P : PG c) (hB : ∀ h, Top c h → NoneBooked h) {f : Int → Option Value} (hD : ∀ h, Top c h → h.MapOf (intKind PySem.Challenge.pw_wj0045_01 c.w) 115 f) {S : Int → Bool} {m : Nat} (hS : ∀ h, Top c h → h.SetOf (intKind PySem.Challenge.pw_wj0045_01 c.w) 104 S m)
    (w cells : List Int) (hv : Valid w) (hc : cells.length = 9) (h0 : ∀ v ∈ cells, 0 ≤ v) (hN0 : 0 < N)
    (sgt : ∀ fm, ∀ n ∈ sgOf fm, S (n : Int) = true) (ltf : ∀ fm x, 0 ≤ x → x ≤ 5 → S (ltOf fm x : Int) = false)
    (hf : ∀ fm x : Int, 0 ≤ x → x ≤ 5 → (∃ u0, f (ltOf fm x : Int) = some (.str ⟨[97 + x.toNat].toArray⟩ u0) ∧ u0 ≠ 0 ∧ u0 < N) ∨ (f (ltOf fm x : Int) = none ∧ (placed (⟨[ltOf fm x].toArray⟩ : Str) fun i _ => Unicode.lowerAt [ltOf fm x].toArray i) = [97 + x.toNat].toArray)) :
    CALLn N c (k + 3) (.ref 179) [IL w, IL cells] (IL w) := by
  refine P.heardF.enterN rfl fun O₀ L cd => ?_
  refine XSn.cast (ρ₁ := [("word", .val (IL w)), ("cells", .val (IL cells))]) rfl ?_
  refine XSn.seq (XTn.of (XT.assign (d := .str []) (EV.strC rfl) (by walk_at "kind"))) ?_
  walk_at "set"
  refine XSn.seq (ρ₁ := [("word", .val (IL w)), ("text", .val (.str (heardT w cells 6)))]) (XTn.of ?_) ?_
  · refine (XT.for_ (dv := .range 0 6 1) (ds := rangeL 0 6 1) (fun i => [("word", .val (IL w)), ("cells", .val (IL cells)), ("text", .val (.str (heardT w cells i)))]) ?_ (ITER.range (by decide) (size_le 6)) (by walk_at "kind") rfl ?_).drop ?_
    · exact EV.callTy P.brange CALL.range1 (EVs.cons (by walk_at "ev") EVs.nil) (by walk_at "kind")
    · intro i d hd
      have hi : i < 6 ∧ d = .int (i : Int) := by
        rw [show rangeL 0 6 1 = rangeL 0 (6 : Nat) 1 from rfl, rangeL_is, List.getElem?_map] at hd
        obtain ⟨j, hj, rfl⟩ := Option.map_eq_some_iff.mp hd
        obtain ⟨h1, h2⟩ := range_get hj
        exact ⟨h1, by rw [h2]⟩
      obtain ⟨hi, rfl⟩ := hi
      have hwv := hv.2 i hi
      have hw6 := hv.1
      have htl := heardT_len w cells i
      rw [show heardT w cells (i + 1) = heardT w cells i ++ sgOf (formOf cells i) ++ [ltOf (formOf cells i) (w.getD i 0)] from rfl]
      have hgc : (cells.map D.int)[(i : Int).toNat]? = some (.int (cells.getD i 0)) := by rw [Int.toNat_natCast]; exact ints_get (by omega)
      have hgw : (w.map D.int)[(i : Int).toNat]? = some (.int (w.getD i 0)) := by rw [Int.toNat_natCast]; exact ints_get (by omega)
      have hlog : ((i : Int) + 1).natAbs.log2 < 9000 := by
        have : ∀ j : Nat, j < 6 → ((j : Int) + 1).natAbs.log2 < 9000 := by decide
        exact this i hi
      generalize heardT w cells i = T at *
      walk_at "set"
      refine XS.assign (d := .int (formOf cells i)) ?_ (by walk_at "kind") ?_
      · exact EV.div' (EV.item (i := (i : Int)) (ds := cells.map .int) (by walk_at "ev") (by walk_at "ev") (by omega) hgc (by simp [hc])) (EV.add_int (by walk_at "ev") (by walk_at "ev")) (by omega) hlog
      walk_at "set"
      generalize formOf cells i = fm at *
      generalize w.getD i 0 = x at *
      have hsl := sg_len fm
      refine XS.seq (XT.augStr (a := T) (b := sgOf fm) (by walk_at "mem") ?_ (by walk_at "kind") (by omega)) ?_
      · have hg : ∀ j, j < 4 → ((sgL fm).map D.str)[j]? = some (.str ((sgL fm).getD j [])) := by
          intro j hj
          match j, hj with
          | 0, _ => rfl
          | 1, _ => rfl
          | 2, _ => rfl
          | 3, _ => rfl
        refine EV.item (i := fm % 4) (ds := (sgL fm).map .str) (EV.listD (EVs.cons (EV.strC rfl) (EVs.cons ?_ (EVs.cons ?_ (EVs.cons ?_ EVs.nil)))) (by simp [sgL])) (EV.mod' (by walk_at "ev") (by walk_at "ev") (by decide)) (by omega) (hg _ (by omega)) (by simp [sgL])
        · exact EV.callBi P.bchr (show CALL c (k + 2) (.builtin "chr") [.int 173] (.str [173]) from CALL.chr (i := 173) (by decide)) (EVs.cons (by walk_at "ev") EVs.nil) (by walk_at "kind")
        · exact EV.callBi P.bchr (show CALL c (k + 2) (.builtin "chr") [.int 8203] (.str [8203]) from CALL.chr (i := 8203) (by decide)) (EVs.cons (by walk_at "ev") EVs.nil) (by walk_at "kind")
        · refine EV.callBi P.bchr (CALL.chr (i := 65024 + (fm % 16).toNat) (by omega)) (EVs.cons ?_ EVs.nil) (by walk_at "kind")
          rw [show ((65024 + (fm % 16).toNat : Nat) : Int) = 65024 + fm % 16 by omega]
          exact EV.add_int (by walk_at "ev") (EV.mod' (by walk_at "ev") (by walk_at "ev") (by decide))
      walk_at "set"
      refine XS.seq (XT.augStr (a := T ++ sgOf fm) (b := [ltOf fm x]) (by walk_at "mem") ?_ (by walk_at "kind") (by simp; omega)) ?_
      · have hg : ∀ j, j < 5 → 0 ≤ baseL.getD j 0 ∧ baseL.getD j 0 ≤ 200000 := by decide
        have hg5 := hg (fm % 5).toNat (by omega)
        refine EV.callBi P.bchr (CALL.chr (i := ltOf fm x) (by unfold ltOf; omega)) (EVs.cons ?_ EVs.nil) (by walk_at "kind")
        rw [show ((ltOf fm x : Nat) : Int) = baseL.getD (fm % 5).toNat 0 + x by unfold ltOf; omega]
        refine EV.add_int (EV.item (i := fm % 5) (ds := baseL.map .int) (EV.listD ?_ (by decide)) (EV.mod' (by walk_at "ev") (by walk_at "ev") (by decide)) (by omega) (ints_get (by show (fm % 5).toNat < 5; omega)) (by decide)) (EV.item (i := (i : Int)) (ds := w.map .int) (by walk_at "ev") (by walk_at "ev") (by omega) hgw (by simp [hw6]))
        exact EVs.cons EV.intC (EVs.cons EV.intC (EVs.cons EV.intC (EVs.cons EV.intC (EVs.cons EV.intC EVs.nil))))
      walk_at "set"
      exact XS.nilDrop (by walk_at "sub")
    · rw [rangeL_length]
      show List.Sublist _ ([("word", Ent.val (IL w)), ("cells", Ent.val (IL cells)), ("text", Ent.val (.str (heardT w cells 6)))] : List (Str × Ent))
      walk_at "sub"
  refine XSn.assignApp (ds := []) (EVnew.list EVs.nil) (by walk_at "kind") (by simp) fun a => ?_
  walk_at "set"
  obtain ⟨hlk, hmem⟩ := look_all sgt ltf hv (cells := cells) 6 (by omega)
  have htl := heardT_len w cells 6
  rw [List.take_of_length_le (by rw [hv.1]; omega)] at hlk
  generalize heardT w cells 6 = T at *
  refine XSn.seq (ρ₁ := [("word", .val (IL w)), ("text", .val (.str T)), ("heard", .app a ((T.filterMap (lookS S)).map .int))]) ?_ ?_
  · refine XTn.cast (XTn.for_ (dv := .str T) (ds := T.map fun x => .str [x]) (fun i => [("word", .val (IL w)), ("text", .val (.str T)), ("heard", .app a (((T.take i).filterMap (lookS S)).map .int))]) ?_ ITER.strA (by walk_at "kind") rfl ?_) (by rw [List.length_map, List.take_length])
    · walk_at "ev"
    · intro i d hd
      rw [List.getElem?_map] at hd
      obtain ⟨n, hn, rfl⟩ := Option.map_eq_some_iff.mp hd
      have hnm := List.mem_of_getElem? hn
      have e1 : (T.take (i + 1)).filterMap (lookS S) = (T.take i).filterMap (lookS S) ++ (lookS S n).toList := by
        rw [List.take_succ, hn, List.filterMap_append]
        rw [show (some n).toList = [n] from rfl, List.filterMap_cons, List.filterMap_nil]
        cases lookS S n <;> rfl
      have hle : ((T.take i).filterMap (lookS S)).length ≤ 100 := Nat.le_trans (List.length_filterMap_le _ _) (by simp; omega)
      rw [e1, List.map_append]
      generalize (T.take i).filterMap (lookS S) = H at *
      walk_at "set"
      refine XSn.seq (ρ₁ := [("word", .val (IL w)), ("text", .val (.str T)), ("heard", .app a (H.map .int ++ (lookS S n).toList.map .int)), ("sign", .val (.str [n]))]) ?_ (XSn.of (XS.nilDrop (by walk_at "sub")))
      refine XTn.iff (b := !(S (n : Int))) (EB.not (EB.val (EV.callF P.in1F P.gin1 (in1_call (k := k + 1) P hS n) (EVs.cons (by walk_at "ev") EVs.nil) (by walk_at "kind")))) (fun h => ?_) (fun h => ?_)
      · have hSn : S (n : Int) = false := by simpa using h
        obtain ⟨fm, x, hx0, hx5, rfl⟩ : ∃ fm x : Int, 0 ≤ x ∧ x ≤ 5 ∧ n = ltOf fm x := by
          rcases hmem n hnm with q | q
          · rw [hSn] at q; cases q
          · exact q
        have e2 : (lookS S (ltOf fm x)).toList.map D.int = [.int x] := by
          unfold lookS
          rw [hSn, dec_lt fm x hx0 hx5]; rfl
        rw [e2]
        obtain ⟨y, rfl⟩ := Int.eq_ofNat_of_zero_le hx0
        have hy : y ≤ 5 := by omega
        have hab : ∀ y, y ≤ 5 → abcL[y]? = some (97 + y) ∧ ∀ j, j < y → abcL[j]? ≠ some (97 + y) := by decide
        obtain ⟨ha1, ha2⟩ := hab y hy
        refine XSn.seq (XTn.append (a := a) (ds := H.map .int) (d := .int (y : Int)) (by walk_at "mem") ?_ rfl (by rw [List.length_map]; omega)) ?_
        · exact EVn.look (k := k + 1) P hB hD abcL (ltOf fm (y : Int)) (97 + y) y rfl (by decide +kernel) ha1 ha2 (by decide) (by have := hf fm (y : Int) hx0 hx5; rwa [Int.toNat_natCast] at this) hN0 (by walk_at "ev") (by walk_at "kind") (by walk_at "kind")
        walk_at "set"
        exact XSn.of XS.nil
      · have hSn : S (n : Int) = true := by simpa using h
        have e2 : (lookS S n).toList.map D.int = [] := by
          unfold lookS
          rw [if_pos hSn]; rfl
        rw [e2, List.append_nil]
        exact XSn.of XS.nil
  refine XSn.of ?_
  refine XS.ret (by walk_at "frz") ?_
  rw [hlk]
  walk_at "ev"
end Mine
end
section -- P1
open PySem PySem.W PyProof.Rows PySem.Calls
set_option Elab.async false
set_option linter.all false
set_option maxRecDepth 100000
namespace Mine
/-! the plain law: the text's skeleton. 0: an x; 1: a closing bracket; i + 2: the head of the i-th node -/
noncomputable def splitN : List Nat → List (List Nat)
  | [] => [[]]
  | y :: r => match y with
    | 0 => [] :: splitN r
    | y + 1 => match splitN r with
      | h :: t => ((y + 1) :: h) :: t
      | [] => [[y + 1]]
noncomputable def joinN : List (List Nat) → List Nat
  | [] => []
  | [p] => p
  | p :: q :: r => p ++ 0 :: joinN (q :: r)
noncomputable def skStep (sk : List Nat) (p i : Nat) : List Nat := joinN ((splitN sk).take (p + 1)) ++ [i + 2, 0, 0, 1] ++ joinN ((splitN sk).drop (p + 1))
noncomputable def skel (w : List Int) : Nat → List Nat
  | 0 => [0]
  | i + 1 => skStep (skel w i) (w.getD i 0).toNat i
/-- the skeleton by one walk -/
noncomputable def repl (nd : List Nat) : List Nat → Nat → List Nat
  | [], _ => []
  | y :: r, p => match y with
    | 0 => match p with
      | 0 => nd ++ r
      | p + 1 => 0 :: repl nd r p
    | y + 1 => (y + 1) :: repl nd r p
noncomputable def skelF (w : List Int) : Nat → List Nat
  | 0 => [0]
  | i + 1 => repl [i + 2, 0, 0, 1] (skelF w i) (w.getD i 0).toNat
noncomputable def headsS : List Nat → List Nat
  | [] => []
  | y :: r => match y with
    | 0 => headsS r
    | 1 => headsS r
    | i + 2 => i :: headsS r
/-- how many x stand ahead of each head, z ahead of all -/
noncomputable def duesS (z : Nat) : List Nat → List Nat
  | [] => []
  | y :: r => match y with
    | 0 => duesS (z + 1) r
    | 1 => duesS z r
    | _ + 2 => z :: duesS z r
noncomputable def opens : List Nat → Nat
  | [] => 0
  | y :: r => match y with
    | 0 => opens r
    | 1 => opens r
    | _ + 2 => opens r + 1
noncomputable def closes : List Nat → Nat
  | [] => 0
  | y :: r => match y with
    | 1 => closes r + 1
    | _ => closes r
/-- the depths behind each piece, one more each; a bracket too much is told by 0 -/
noncomputable def deeps (d : Nat) : List (List Nat) → List Nat
  | [] => []
  | p :: r => match Nat.ble (closes p) (d + opens p) with
    | true => (d + opens p - closes p + 1) :: deeps (d + opens p - closes p) r
    | false => [0]
/-- the canonical word of the depths -/
noncomputable def decodeR (i : Nat) : List Nat → List Nat → List Nat
  | [], _ => []
  | d :: r, t :: st => List.replicate (d - t) i ++ decodeR (i + 1) r (((List.range (d - t)).map fun k => d - k) ++ st)
  | _ :: _, [] => []
noncomputable def wordsN : Nat → List (List Int)
  | 0 => [[]]
  | n + 1 => (wordsN n).flatMap fun u => (List.range (n + 1)).map fun (a : Nat) => u ++ [(a : Int)]
noncomputable def invs (l : List Nat) : Nat := ((List.range 6).map fun b => ((List.range b).filter fun a => decide (l.getD b 0 < l.getD a 0)).length).sum
noncomputable def sumN (w : List Int) : Nat := (w.map Int.toNat).sum
noncomputable def okSk (w : List Int) (sk rows : List Nat) : Bool :=
  Fast.lEq (deeps 0 (splitN sk)) (rows ++ [1]) && Nat.beq rows.length 7 && Nat.beq (headsS sk).length 6 && (headsS sk).all (fun i => Nat.blt i 6)
    && Fast.lEq (decodeR 0 (rows.map fun n => n - 1) [0]) (duesS 0 sk) && Nat.beq (invs (headsS sk) + sumN w) (duesS 0 sk).sum
    && (match fallsOf w with | [] => Fast.lEq (w.map Int.toNat) (duesS 0 sk) | f => f.all fun k => Fast.lEq (rowN (fallAt w k) 6) rows)
noncomputable def okOne (w : List Int) : Bool := okSk w (skelF w 6) (rowN w 6)
end Mine
end
section -- P2
open PySem PySem.W PyProof.Rows PySem.Calls
set_option Elab.async false
set_option linter.all false
set_option maxRecDepth 100000
namespace Mine
theorem ok0 : (((wordsN 6).drop 0).take 120).all okOne = true := by kernel_rfl!
theorem ok1 : (((wordsN 6).drop 120).take 120).all okOne = true := by kernel_rfl!
theorem ok2 : (((wordsN 6).drop 240).take 120).all okOne = true := by kernel_rfl!
theorem ok3 : (((wordsN 6).drop 360).take 120).all okOne = true := by kernel_rfl!
theorem ok4 : (((wordsN 6).drop 480).take 120).all okOne = true := by kernel_rfl!
theorem ok5 : (((wordsN 6).drop 600).take 120).all okOne = true := by kernel_rfl!
theorem words_len : (wordsN 6).length = 720 := by kernel_rfl!
theorem ok_all {w : List Int} (h : w ∈ wordsN 6) : okOne w = true := by
  obtain ⟨i, hi, e⟩ := List.mem_iff_getElem.mp h
  have key : ∀ a, a ≤ i → i < a + 120 → (((wordsN 6).drop a).take 120).all okOne = true → okOne w = true := by
    intro a h1 h2 hall
    refine List.all_eq_true.mp hall w ?_
    rw [List.mem_iff_getElem?]
    refine ⟨i - a, ?_⟩
    rw [List.getElem?_take_of_lt (by omega), List.getElem?_drop, show a + (i - a) = i by omega, List.getElem?_eq_getElem hi, e]
  have hi7 : i < 720 := by rw [words_len] at hi; exact hi
  by_cases h1 : i < 120
  · exact key 0 (by omega) (by omega) ok0
  by_cases h2 : i < 240
  · exact key 120 (by omega) (by omega) ok1
  by_cases h3 : i < 360
  · exact key 240 (by omega) (by omega) ok2
  by_cases h4 : i < 480
  · exact key 360 (by omega) (by omega) ok3
  by_cases h5 : i < 600
  · exact key 480 (by omega) (by omega) ok4
  · exact key 600 (by omega) (by omega) ok5
theorem words_take {w : List Int} (hv : Valid w) : ∀ n, n ≤ 6 → w.take n ∈ wordsN n
  | 0, _ => by simp [wordsN]
  | n + 1, h => by
    unfold wordsN
    have hl := hv.1
    have hn := hv.2 n (by omega)
    refine List.mem_flatMap.mpr ⟨w.take n, words_take hv n (by omega), List.mem_map.mpr ⟨(w.getD n 0).toNat, List.mem_range.mpr (by omega), ?_⟩⟩
    rw [List.take_succ, List.getElem?_eq_getElem (by omega)]
    rw [List.getD_eq_getElem?_getD, List.getElem?_eq_getElem (by omega)] at hn ⊢
    simp only [Option.getD_some, Option.toList_some] at hn ⊢
    rw [Int.toNat_of_nonneg hn.1]
theorem words_mem {w : List Int} (hv : Valid w) : w ∈ wordsN 6 := by
  have := words_take hv 6 (Nat.le_refl _)
  rwa [List.take_of_length_le (by rw [hv.1]; omega)] at this
noncomputable abbrev skW (w : List Int) : List Nat := skelF w 6
noncomputable abbrev duW (w : List Int) : List Nat := duesS 0 (skW w)
structure WordOk (w : List Int) : Prop where
  deep : deeps 0 (splitN (skW w)) = rowN w 6 ++ [1]
  rl : (rowN w 6).length = 7
  hl : (headsS (skW w)).length = 6
  h6 : ∀ i ∈ headsS (skW w), i < 6
  dec : decodeR 0 ((rowN w 6).map fun n => n - 1) [0] = duW w
  sum : invs (headsS (skW w)) + sumN w = (duW w).sum
  fin : fallsOf w = [] → w.map Int.toNat = duW w
  go : ∀ k ∈ fallsOf w, rowN (fallAt w k) 6 = rowN w 6
theorem word_ok {w : List Int} (hv : Valid w) : WordOk w := by
  have h := ok_all (words_mem hv)
  unfold okOne okSk at h
  simp only [Bool.and_eq_true] at h
  obtain ⟨⟨⟨⟨⟨⟨h1, h2⟩, h3⟩, h4⟩, h5⟩, h6⟩, h7⟩ := h
  refine ⟨Fast.lEq_iff.mp h1, Nat.eq_of_beq_eq_true h2, Nat.eq_of_beq_eq_true h3, fun i hi => ?_, Fast.lEq_iff.mp h5, Nat.eq_of_beq_eq_true h6, fun e => ?_, fun k hk => ?_⟩
  · have := List.all_eq_true.mp h4 i hi
    exact Nat.le_of_ble_eq_true this
  · rw [e] at h7
    exact Fast.lEq_iff.mp h7
  · cases e : fallsOf w with
    | nil => rw [e] at hk; cases hk
    | cons a r =>
      rw [e] at h7
      rw [e] at hk
      exact Fast.lEq_iff.mp (List.all_eq_true.mp h7 k hk)
theorem getD_set {L : List Int} {p j : Nat} {x : Int} (hp : p < L.length) : (L.set p x).getD j 0 = if j = p then x else L.getD j 0 := by
  rw [List.getD_eq_getElem?_getD, List.getElem?_set, List.getD_eq_getElem?_getD]
  by_cases h : p = j
  · subst h; simp [hp]
  · simp [h, Ne.symm h]
theorem falls_mem {L : List Int} {p : Nat} (h : p ∈ fallsOf L) : p < 5 ∧ L.getD (p + 1) 0 < L.getD p 0 := by
  unfold fallsOf at h
  obtain ⟨h1, h2⟩ := List.mem_filter.mp h
  exact ⟨List.mem_range.mp h1, of_decide_eq_true h2⟩
theorem fall_valid {w : List Int} {p : Nat} (hv : Valid w) (h : p ∈ fallsOf w) : Valid (fallAt w p) := by
  obtain ⟨h1, h2⟩ := falls_mem h
  have hl := hv.1
  refine ⟨by simp [fallAt, hl], fun j hj => ?_⟩
  unfold fallAt
  rw [getD_set (by simp; omega), getD_set (by omega)]
  have a := hv.2 p (by omega)
  have b := hv.2 (p + 1) (by omega)
  have c := hv.2 j hj
  split
  · rename_i q; subst q; omega
  · split
    · rename_i q; subst q; omega
    · exact c
theorem sum_set : ∀ (L : List Int) (p : Nat) (x : Int), p < L.length → sumN (L.set p x) + (L.getD p 0).toNat = sumN L + x.toNat
  | a :: r, 0, x, _ => by simp [sumN]; omega
  | a :: r, p + 1, x, h => by
    have := sum_set r p x (by simpa using h)
    simp only [sumN, List.set_cons_succ, List.map_cons, List.sum_cons, List.getD_cons_succ] at this ⊢
    omega
theorem fall_sum {w : List Int} {p : Nat} (hv : Valid w) (h : p ∈ fallsOf w) : sumN (fallAt w p) = sumN w + 1 := by
  obtain ⟨h1, h2⟩ := falls_mem h
  have hl := hv.1
  have a := hv.2 p (by omega)
  have b := hv.2 (p + 1) (by omega)
  unfold fallAt
  have e1 := sum_set (w.set p (w.getD (p + 1) 0)) (p + 1) (w.getD p 0 + 1) (by simp; omega)
  have e2 := sum_set w p (w.getD (p + 1) 0) (by omega)
  rw [getD_set (by omega), if_neg (by omega)] at e1
  omega
theorem pair_valid {w : List Int} {k : Nat} (hv : Valid w) (hk : k < 5) : Valid (w.take k ++ pairOf (w.getD k 0) (w.getD (k + 1) 0) ++ w.drop (k + 2)) := by
  have hl := hv.1
  have hpl := pairOf_length (w.getD k 0) (w.getD (k + 1) 0)
  have htl : (w.take k).length = k := by rw [List.length_take]; omega
  refine ⟨by simp only [List.length_append, hpl, htl, List.length_drop]; omega, fun j hj => ?_⟩
  have a := hv.2 k (by omega)
  have b := hv.2 (k + 1) (by omega)
  have c := hv.2 j hj
  have hpair : (pairOf (w.getD k 0) (w.getD (k + 1) 0)).getD 0 0 = (pairOf (w.getD k 0) (w.getD (k + 1) 0)).getD 0 0 ∧ 0 ≤ (pairOf (w.getD k 0) (w.getD (k + 1) 0)).getD 0 0 ∧ (pairOf (w.getD k 0) (w.getD (k + 1) 0)).getD 0 0 ≤ k ∧ 0 ≤ (pairOf (w.getD k 0) (w.getD (k + 1) 0)).getD 1 0 ∧ (pairOf (w.getD k 0) (w.getD (k + 1) 0)).getD 1 0 ≤ k + 1 := by
    generalize w.getD k 0 = p at *
    generalize w.getD (k + 1) 0 = q at *
    unfold pairOf
    split
    · exact ⟨rfl, by show 0 ≤ q; omega, by show q ≤ _; omega, by show 0 ≤ p + 1; omega, by show p + 1 ≤ _; omega⟩
    · split
      · exact ⟨rfl, by show 0 ≤ q - 1; omega, by show q - 1 ≤ _; omega, by show 0 ≤ p; omega, by show p ≤ _; omega⟩
      · exact ⟨rfl, by show 0 ≤ p; omega, by show p ≤ _; omega, by show 0 ≤ p + p + 1 - q; omega, by show p + p + 1 - q ≤ _; omega⟩
  obtain ⟨_, p1, p2, p3, p4⟩ := hpair
  generalize pairOf (w.getD k 0) (w.getD (k + 1) 0) = P at *
  rw [List.getD_eq_getElem?_getD]
  by_cases h1 : j < k
  · rw [List.append_assoc, List.getElem?_append_left (by omega), List.getElem?_take_of_lt h1, ← List.getD_eq_getElem?_getD]
    exact c
  · by_cases h2 : j < k + 2
    · rw [List.getElem?_append_left (by simp [hpl]; omega), List.getElem?_append_right (by omega), htl, ← List.getD_eq_getElem?_getD]
      have : j = k ∨ j = k + 1 := by omega
      rcases this with rfl | rfl
      · rw [Nat.sub_self]; omega
      · rw [show k + 1 - k = 1 by omega]; omega
    · rw [List.getElem?_append_right (by simp [hpl]; omega), List.getElem?_drop]
      simp only [List.length_append, htl, hpl]
      rw [show k + 2 + (j - (k + 2)) = j by omega, ← List.getD_eq_getElem?_getD]
      exact c
theorem step_valid {w : List Int} {v : Int} (hv : Valid w) (h0 : 0 ≤ v) : Valid (stepOf w v) := pair_valid hv (by omega)
theorem steps_valid : ∀ (l : List Int) {w : List Int}, Valid w → (∀ v ∈ l, 0 ≤ v) → Valid (l.foldl stepOf w)
  | [], w, hv, _ => hv
  | v :: r, w, hv, h => steps_valid r (step_valid hv (h v List.mem_cons_self)) fun x hx => h x (List.mem_cons_of_mem _ hx)
theorem second_valid {cells : List Int} (h0 : ∀ v ∈ cells, 0 ≤ v) : Valid (secondOf cells) := steps_valid _ (drawn_valid cells) fun v hv => h0 v (List.mem_of_mem_drop hv)
/-- the end of the settling -/
noncomputable def turns (w : List Int) : Nat := invs (headsS (skW w))
theorem same_due {u w : List Int} (hu : Valid u) (hw : Valid w) (h : rowN u 6 = rowN w 6) : duW u = duW w := by
  rw [← (word_ok hu).dec, ← (word_ok hw).dec, h]
theorem settle {w cells : List Int} (hv : Valid w) : ∀ i, i ≤ turns w → Valid (setl cells w i) ∧ sumN (setl cells w i) = sumN w + i ∧ rowN (setl cells w i) 6 = rowN w 6 ∧ (i < turns w → fallsOf (setl cells w i) ≠ [])
  | 0, _ => by
    refine ⟨hv, rfl, rfl, fun h e => ?_⟩
    have h1 := (word_ok hv).fin e
    have h2 := (word_ok hv).sum
    have : sumN w = (duW w).sum := by rw [← h1]; rfl
    unfold turns at h
    have e' : setl cells w 0 = w := rfl
    omega
  | i + 1, h => by
    obtain ⟨a, b, c, d⟩ := settle (cells := cells) hv i (by omega)
    have hm := placeOf_mem (cells := cells) (s := i) (d (by omega))
    have v' := fall_valid a hm
    have s' := fall_sum a hm
    have r' := (word_ok a).go _ hm
    refine ⟨v', by show sumN (fallAt _ _) = _; omega, r'.trans c, fun hlt e => ?_⟩
    have h1 := (word_ok v').fin e
    have h2 := same_due v' hv (r'.trans c)
    have h3 := (word_ok hv).sum
    have : sumN (fallAt (setl cells w i) (placeOf cells i (setl cells w i))) = (duW w).sum := by rw [← h2, ← h1]; rfl
    unfold turns at hlt
    omega
theorem settled_end {w cells : List Int} (hv : Valid w) : fallsOf (setl cells w (turns w)) = [] ∧ setl cells w (turns w) = (duW w).map fun (n : Nat) => (n : Int) := by
  obtain ⟨a, b, c, _⟩ := settle (cells := cells) hv (turns w) (Nat.le_refl _)
  have h3 := (word_ok hv).sum
  have hsum : sumN (setl cells w (turns w)) = (duW w).sum := by unfold turns at b ⊢; omega
  generalize setl cells w (turns w) = u at *
  have e : fallsOf u = [] := by
    cases q : fallsOf u with
    | nil => rfl
    | cons k r =>
      exfalso
      have hk : k ∈ fallsOf u := by rw [q]; exact List.mem_cons_self
      have v' := fall_valid a hk
      have s' := fall_sum a hk
      have r' := (word_ok a).go _ hk
      have h2 := same_due v' hv (r'.trans c)
      have h4 := (word_ok v').sum
      have : (duW (fallAt u k)).sum = (duW w).sum := by rw [h2]
      omega
  refine ⟨e, ?_⟩
  have h1 := (word_ok a).fin e
  rw [same_due a hv c] at h1
  rw [← h1, List.map_map]
  conv => lhs; rw [← List.map_id u]
  refine List.map_congr_left fun x hx => ?_
  obtain ⟨i, hi, rfl⟩ := List.mem_iff_getElem.mp hx
  have := a.2 i (by rw [a.1] at hi; exact hi)
  rw [List.getD_eq_getElem?_getD, List.getElem?_eq_getElem hi] at this
  simp only [Option.getD_some] at this
  show u[i] = ((u[i].toNat : Nat) : Int)
  rw [Int.toNat_of_nonneg this.1]
end Mine
end
section -- W29
open PySem PySem.W PyProof.Rows PySem.Calls
set_option Elab.async false
set_option linter.all false
set_option maxRecDepth 100000
namespace Mine
open PySem.Sre (M)
theorem runFor_done : ∀ (n : Nat) (m : M), m.outcome.isSome = true → M.runFor n m = m
  | 0, _, _ => rfl
  | n + 1, m, h => by unfold M.runFor; rw [if_pos h]
theorem runFor_add : ∀ (a b : Nat) (m : M), M.runFor (a + b) m = M.runFor b (M.runFor a m)
  | 0, b, m => by rw [Nat.zero_add]; rfl
  | a + 1, b, m => by
    rw [show a + 1 + b = (a + b) + 1 by omega]
    by_cases h : m.outcome.isSome = true
    · rw [runFor_done _ _ h, runFor_done _ _ h, runFor_done _ _ h]
    · conv => lhs; unfold M.runFor
      conv => rhs; arg 2; unfold M.runFor
      rw [if_neg h, if_neg h]
      exact runFor_add a b m.step
section
variable {MO : Model} {A : Around} {E : Value → Shared → Prop} {s : Shared}
theorem drive : ∀ (t : Nat) (m m' : M) (n : Nat) {Q : M → Shared → Prop}, M.runFor n m = m' → m'.outcome.isSome = true → n ≤ t → Q m' s → wpAny MO A (Builtin.Re.reDrive (t + 1) m) Q E s := by
  intro t
  induction t using Nat.strongRecOn with
  | _ t ih =>
    intro m m' n Q h ho hn hq
    unfold Builtin.Re.reDrive
    dsimp only
    by_cases hd : (m.runFor Builtin.Re.reTurnSteps).outcome.isSome = true
    · rw [if_pos hd]
      have : m.runFor Builtin.Re.reTurnSteps = m' := by
        rcases Nat.le_total n Builtin.Re.reTurnSteps with q | q
        · rw [show Builtin.Re.reTurnSteps = n + (Builtin.Re.reTurnSteps - n) by omega, runFor_add, h, runFor_done _ _ ho]
        · rw [show n = Builtin.Re.reTurnSteps + (n - Builtin.Re.reTurnSteps) by omega, runFor_add, runFor_done _ _ hd] at h
          exact h
      rw [this]
      exact wpAny_pure hq
    · rw [if_neg hd]
      refine wpAny_bind (wpAny_rule ?_)
      have hlt : Builtin.Re.reTurnSteps < n := by
        apply Nat.lt_of_not_le
        intro q
        apply hd
        rw [show Builtin.Re.reTurnSteps = n + (Builtin.Re.reTurnSteps - n) by omega, runFor_add, h, runFor_done _ _ ho]
        exact ho
      have hpos : 0 < Builtin.Re.reTurnSteps := by decide
      cases t with
      | zero => omega
      | succ t =>
        refine ih t (Nat.lt_succ_self t) (m.runFor Builtin.Re.reTurnSteps) m' (n - Builtin.Re.reTurnSteps) ?_ ho (by omega) hq
        rw [← runFor_add, show Builtin.Re.reTurnSteps + (n - Builtin.Re.reTurnSteps) = n by omega]
        exact h
theorem seenLoop {m : M} : ∀ (l : List Nat) (s : Shared) {Q : PUnit → Shared → Prop}, Q ⟨⟩ s → wpAny MO A (forIn l PUnit.unit fun i (_ : PUnit) => if m.seen.has i = true then (do rule (Sre.names.getD i ""); pure (ForInStep.yield PUnit.unit)) else (pure (ForInStep.yield PUnit.unit) : Sem (ForInStep PUnit))) Q E s
  | [], s, Q, h => by rw [List.forIn_nil]; exact wpAny_pure h
  | i :: l, s, Q, h => by
    rw [List.forIn_cons]
    refine wpAny_bind ?_
    split
    · exact wpAny_bind (wpAny_rule (wpAny_pure (seenLoop l s h)))
    · exact wpAny_pure (seenLoop l s h)
theorem run_end {m m' : M} {n : Nat} {Q : Option M → Shared → Prop} (h : M.runFor n m = m') (hn : n ≤ 1000000) {b : Bool} (ho : m'.outcome = some (if b then .matched else .failed)) (hq : Q (if b then some m' else none) s) : wpAny MO A (Builtin.Re.reRunToEnd m) Q E s := by
  unfold Builtin.Re.reRunToEnd
  refine wpAny_bind (drive (2 ^ 64 - 1) m m' n h (by rw [ho]; rfl) (by omega) ?_)
  refine wpAny_bind (seenLoop _ _ ?_)
  rw [ho]
  cases b with
  | true => exact wpAny_pure hq
  | false => exact wpAny_pure hq
end
end Mine
end
section -- W30
open PySem PySem.W PyProof.Rows PySem.Calls
set_option Elab.async false
set_option linter.all false
set_option maxRecDepth 100000
namespace Mine
open PySem.Sre (M)
/-- a compiled pattern without groups -/
noncomputable def PatIs (h : Heap) (p : Addr) (code : List Nat) (want : Nat) : Prop :=
  ∃ o q v0 v1 v3 v4 t2 t6, h.get? p = some o ∧ o.cls = .type "re.Pattern" ∧ o.dict = none ∧ o.data = .fields #[v0, v1, .int 0 t2, v3, v4, .ref q, .int (want : Int) t6] ∧ ∃ oq n, h.get? q = some oq ∧ oq.data = .seq (code.map fun (c : Nat) => Value.int (c : Int) 0).toArray n
theorem PatIs.kp {h h' : Heap} {p : Addr} {code : List Nat} {want : Nat} (x : PatIs h p code want) (k : Kp h h') : PatIs h' p code want := by
  obtain ⟨o, q, v0, v1, v3, v4, t2, t6, e, c, d, hd, oq, n, eq, hq⟩ := x
  exact ⟨o, q, v0, v1, v3, v4, t2, t6, k _ _ e, c, d, hd, oq, n, k _ _ eq, hq⟩
theorem code_back (code : List Nat) : ((code.map fun (c : Nat) => Value.int (c : Int) 0).toArray.map Builtin.Re.reRawOf).map Int.toNat = code.toArray := by
  apply Array.toList_inj.mp
  simp [Builtin.Re.reRawOf, Function.comp_def]
section
variable {MO : Model} {A : Around} {E : Value → Shared → Prop} {s : Shared}
theorem whole_str {p : Addr} {code : List Nat} {x : Str} {t : Tok} {Q : Builtin.Re.ReTarget → Shared → Prop} (X : PatIs s.heap p code 0)
    (h : Q { pattern := .ref p, string := .str x t, code := code.toArray, text := x.cps, kind := 0, groups := 0, pos := 0, lim := x.cps.size } s) : wpAny MO A (Builtin.Re.reWholeTarget (.ref p) (.str x t)) Q E s := by
  obtain ⟨o, q, v0, v1, v3, v4, t2, t6, e, c, d, hd, oq, n, eq, hq⟩ := X
  unfold Builtin.Re.reWholeTarget
  refine wpAny_bind ?_
  unfold fieldsOf
  refine wpAny_bind (wpAny_load e ?_)
  rw [hd]
  refine wpAny_pure ?_
  refine wpAny_bind (m := Builtin.Re.reTextOf (.str x t)) (wpAny_of_eq (a := (x.cps, 0)) rfl ?_)
  show wpAny _ _ (Builtin.Re.reNoCollectionInside (.str x t) 0 >>= _) _ _ _
  refine wpAny_bind (wpAny_pure ?_)
  show wpAny _ _ (Builtin.Re.reRawItems (.ref q) >>= _) _ _ _
  refine wpAny_bind ?_
  unfold Builtin.Re.reRawItems
  refine wpAny_bind (wpAny_seqItems eq hq ?_)
  refine wpAny_pure (wpAny_pure ?_)
  have e2 := code_back code
  show Q { pattern := .ref p, string := .str x t, code := ((code.map fun (c : Nat) => Value.int (c : Int) 0).toArray.map Builtin.Re.reRawOf).map Int.toNat, text := x.cps, kind := 0, groups := 0, pos := 0, lim := x.cps.size } s
  rw [e2]
  exact h
end
end Mine
end
section -- W31
open PySem PySem.W PyProof.Rows PySem.Calls
set_option Elab.async false
set_option linter.all false
set_option maxRecDepth 100000
namespace Mine
section
variable {c : Cx} {k : Nat} {env : Env} {O₀ O : Addr → Prop} {ρ ρ₁ ρ₂ : List (Str × Ent)} {h₀ h h' h1 h2 h3 : Heap}
theorem joined0_go : ∀ (ps : List (List UInt8)) (j : Nat) (out : Array UInt8), ((ps.map List.toArray).zipIdx j).foldl (fun out (p : Array UInt8 × Nat) => (if p.2 > 0 then out ++ #[] else out) ++ p.1) out = out ++ ps.flatten.toArray
  | [], j, out => by simp
  | p :: r, j, out => by
    rw [List.map_cons, List.zipIdx_cons, List.foldl_cons]
    dsimp only
    have e : (if j > 0 then out ++ #[] else out) = out := by split <;> simp
    rw [e, joined0_go r (j + 1) _]
    simp
theorem joined0_is (ps : List (List UInt8)) : Builtin.Bytes.joined #[] (ps.map List.toArray) = ps.flatten.toArray := by
  unfold Builtin.Bytes.joined
  refine (joined0_go ps 0 #[]).trans ?_
  simp
theorem CALL.bjoin0 {ps : List (List UInt8)} (hz : (ps.map List.length).sum ≤ 16777216) : CALL c k (.builtin "bytes.join") [.bytes [], .list (ps.map .bytes)] (.bytes ps.flatten) := by
  refine .mk ?_
  intro A s Q E O vs ao T ob r h
  cases r with | cons r1 r2 =>
  cases r2 with | cons r2 r3 =>
  cases r3
  cases r1 with | bytes _ t1 =>
  cases r2 with | list hl ho rl =>
  rename_i a vs
  refine wpAny_call_entry slot_bytes_join (typeIs_bytes _ _ _) entry_bytes_join ?_ (args_bytes_join_2 _ _)
  show wpAny _ _ (Builtin.Bytes.joinItems (.ref a) >>= _) _ _ s
  refine wpAny_bind ?_
  unfold Builtin.Bytes.joinItems
  refine wpAny_bind (wpAny_typeOf hl.typeIs ?_)
  refine wpAny_pure ?_
  obtain ⟨o, hoo, hc, n, hd⟩ := id hl
  show wpAny _ _ (seqItems? (.ref a) >>= _) _ _ s
  refine wpAny_bind (wpAny_seqItems hoo hd ?_)
  have hn : vs.length = ps.length := by rw [rl.length, List.length_map]
  have get : ∀ i, i < ps.length → ∃ t, vs.toArray.getD i .none = .bytes (ps.getD i []).toArray t := fun i hi => by
    obtain ⟨v, e, rv⟩ := rl.get (i := i) (d := .bytes (ps.getD i [])) (by rw [List.getElem?_map, List.getD_eq_getElem?_getD]; simp [hi])
    cases rv with | bytes _ t =>
    exact ⟨t, by rw [Array.getD_eq_getD_getElem?]; simp [e]⟩
  by_cases h1 : ps.length = 1
  · obtain ⟨p, rfl⟩ := List.length_eq_one_iff.mp h1
    cases rl with | cons r1 r2 =>
    cases r2
    cases r1 with | bytes _ tp =>
    show wpAny _ _ (typeOf (.bytes p.toArray tp) >>= _) _ _ s
    refine wpAny_bind (wpAny_typeOf (typeIs_bytes s p.toArray tp) ?_)
    show wpAny _ _ (rule _ >>= _) _ _ s
    refine wpAny_bind (wpAny_rule ?_)
    exact wpAny_pure ⟨_, rfl, h _ s.heap s.toks Kp.refl (by rw [show [p].flatten = p by simp]; exact .bytes p tp)⟩
  · have body : ∀ (i : Nat) (b : Array (Array UInt8) × List (Value × Option Value)) (s' : Shared), i < vs.toArray.size → (s' = s ∧ b.1.toList = (ps.take i).map List.toArray ∧ ∀ p ∈ b.2, p.2 = none ∧ p.1.onHeap = false) → True := fun _ _ _ _ _ => trivial
    have ht : ∀ i, i < ps.length → (ps.take (i + 1)).map List.toArray = (ps.take i).map List.toArray ++ [(ps.getD i []).toArray] := fun i hi => by
      rw [List.take_succ, List.map_append, List.getElem?_eq_getElem hi, List.getD_eq_getElem?_getD, List.getElem?_eq_getElem hi]
      rfl
    have hsz : vs.toArray.size = ps.length := by simp [hn]
    have main : ∀ (f : Nat → Array (Array UInt8) × List (Value × Option Value) → Sem (ForInStep (Array (Array UInt8) × List (Value × Option Value)))) (g : Array (Array UInt8) × List (Value × Option Value) → Sem Fin) (Q' : Fin → Shared → Prop),
        (∀ i b, i < ps.length → (b.1.toList = (ps.take i).map List.toArray ∧ ∀ p ∈ b.2, p.2 = none ∧ p.1.onHeap = false) → wpAny (MM c) A.in1 (f i b) (fun r s' => ∃ b', r = .yield b' ∧ s' = s ∧ b'.1.toList = (ps.take (i + 1)).map List.toArray ∧ ∀ p ∈ b'.2, p.2 = none ∧ p.1.onHeap = false) E s) →
        (∀ b, b.1.toList = ps.map List.toArray → (∀ p ∈ b.2, p.2 = none) → wpAny (MM c) A.in1 (g b) Q' E s) → wpAny (MM c) A.in1 (forIn [:vs.toArray.size] ((#[] : Array (Array UInt8)), ([] : List (Value × Option Value))) f >>= g) Q' E s := by
      intro f g Q' hf hg
      refine wpAny_bind (range_loop (fun i b s' => s' = s ∧ b.1.toList = (ps.take i).map List.toArray ∧ ∀ p ∈ b.2, p.2 = none ∧ p.1.onHeap = false) (fun i b s' hi hI => ?_) ⟨rfl, by simp, by simp⟩ fun b s' hI => ?_)
      · obtain ⟨rfl, h1, h2⟩ := hI
        exact hf i b (by omega) ⟨h1, h2⟩
      · obtain ⟨rfl, h1, h2⟩ := hI
        rw [hsz, List.take_length] at h1
        exact hg b h1 fun p hp => (h2 p hp).1
    have fin : ∀ (b : Array (Array UInt8) × List (Value × Option Value)), b.1.toList = ps.map List.toArray → (∀ p ∈ b.2, p.2 = none) → wpAny (MM c) A.in1 (do
        let sep ← Builtin.Bytes.payload (.bytes #[] t1)
        if Builtin.Bytes.tooLong (b.1.foldl (· + ·.size) (sep.size * (b.1.size - 1))) then unsupported "bytes.join:memory"
        let result ← Builtin.Bytes.Kind.new .bytes (Builtin.Bytes.joined sep b.1.toList)
        holding (result :: b.2.flatMap fun (y, u) => y :: u.toList) point
        Builtin.Bytes.joinLetGo b.2 [result]
        ret result) (fun fin s' => ∃ v, fin = Fin.done (Flow.ret v) ∧ Q v s') E s := by
      intro b hb hl
      refine wpAny_bind (wpAny_pure ?_)
      have hbs : b.1.size = ps.length := by rw [← Array.length_toList, hb, List.length_map]
      have hfold : b.1.foldl (fun (n : Nat) (p : Array UInt8) => n + p.size) ((#[] : Array UInt8).size * (b.1.size - 1)) = (ps.map List.length).sum := by
        rw [← Array.foldl_toList, hb, foldl_sizes, hbs]
        simp
      have hb2 : ps.flatten.length ≤ 16777216 := by rw [List.length_flatten]; exact hz
      dsimp only
      rw [hfold, KBy.tooLong_not (by omega)]
      rw [if_neg (by simp)]
      rw [hb, joined0_is]
      refine wpAny_bind (wpAny_mkBytes ?_ (by rw [sizeLine_eq]; simpa using hb2))
      refine wpAny_bind (wpAny_holding (wpAny_point (letGo_bind b.2 hl ?_)))
      exact wpAny_pure ⟨_, rfl, h _ s.heap _ Kp.refl (.bytes ps.flatten _)⟩
    have turn : ∀ (i : Nat) (b : Array (Array UInt8) × List (Value × Option Value)), i < ps.length → (b.1.toList = (ps.take i).map List.toArray ∧ ∀ p ∈ b.2, p.2 = none ∧ p.1.onHeap = false) →
        ∃ t, vs.toArray.getD i .none = .bytes (ps.getD i []).toArray t ∧ ((b.1.push (ps.getD i []).toArray).toList = (ps.take (i + 1)).map List.toArray ∧ ∀ p ∈ b.2 ++ [(Value.bytes (ps.getD i []).toArray t, (none : Option Value))], p.2 = none ∧ p.1.onHeap = false) := by
      intro i b hi hI
      obtain ⟨t, e⟩ := get i hi
      refine ⟨t, e, by rw [Array.toList_push, hI.1, ht i hi], fun p hp => ?_⟩
      rcases List.mem_append.mp hp with q | q
      · exact hI.2 p q
      · rw [List.mem_singleton.mp q]; exact ⟨rfl, rfl⟩
    match vs, hn, main, turn, hd, h1, hsz with
    | [], hn, main, turn, hd, _, _ =>
      refine main _ _ _ (fun i b hi hI => ?_) fun b hb hl => fin b hb hl
      exact absurd hi (by rw [← hn]; simp)
    | [v], hn, _, _, _, h1, _ => exact absurd hn.symm h1
    | v :: w :: r, hn, main, turn, hd, _, hsz =>
      refine main _ _ _ (fun i b hi hI => ?_) fun b hb hl => fin b hb hl
      obtain ⟨t, e, hI'⟩ := turn i b hi hI
      refine wpAny_bind (wpAny_seqItems hoo hd ?_)
      show wpAny _ _ (if ((false || b.2.any (·.1.onHeap)) = true) then _ else _) _ _ s
      have hany : (false || b.2.any (·.1.onHeap)) = false := by
        rw [Bool.false_or, List.any_eq_false]
        intro p hp
        rw [(hI.2 p hp).2]; simp
      rw [hany, if_neg (by simp)]
      refine wpAny_bind (wpAny_holding ?_)
      rw [e, take_eq]
      refine wpAny_pure ?_
      refine wpAny_bind (wpAny_seqItems hoo hd ?_)
      show wpAny _ _ (if ((v :: w :: r).toArray.size != (v :: w :: r).toArray.size) = true then _ else _) _ _ s
      rw [if_neg (by simp)]
      exact wpAny_pure ⟨_, rfl, rfl, hI'⟩
end
end Mine
end
section -- W32
open PySem PySem.W PyProof.Rows PySem.Calls
set_option Elab.async false
set_option linter.all false
set_option maxRecDepth 100000
namespace Mine
theorem plainAttrs_pat : PlainAttrs "re.Pattern" :=
  ⟨⟨"object.__getattribute__", by rw [typeLookup_type, builtinLookup_eq_fast]; kernel_rfl, by decide +kernel⟩, by rw [typeLookup_type, builtinLookup_eq_fast]; kernel_rfl⟩
theorem slot_pat_sub : Slot "re.Pattern" "sub" "re.Pattern.sub" :=
  .of (owner := "re.Pattern") (n := "sub") (by rw [typeLookup_type, builtinLookup_eq_fast]; kernel_rfl) (by decide +kernel) (by decide +kernel) (by decide +kernel)
    (by first | exact .inl (by decide +kernel) | exact .inr (by decide +kernel)) (by rw [isSubtype_type]; kernel_rfl)
theorem type_pat_sub : typeOf (.builtin "re.Pattern.sub") = pure (.type "method_descriptor") := by show builtinType _ = _; rw [builtinType_eq_fast]; kernel_rfl
theorem entry_pat_sub : entryFor table "re.Pattern.sub" = some Builtin.«re.Pattern.sub» := entryFor_of_tree (by kernel_rfl)
theorem entry_pat_loop : entryFor table "re.Pattern.sub.loop" = some Builtin.«re.Pattern.sub.loop» := entryFor_of_tree (by kernel_rfl)
theorem plain_pat_loop : plainId "re.Pattern.sub.loop" = true := by decide +kernel
theorem args_pat_sub (a b c : Value) : argsOk "re.Pattern.sub" ⟨[a, b, c], []⟩ := by
  unfold argsOk; kernel_rfl
end Mine
end
section -- W33
open PySem PySem.W PyProof.Rows PySem.Calls
set_option Elab.async false
set_option linter.all false
set_option maxRecDepth 100000
namespace Mine
open PySem.Sre (M)
/-- what the search finds -/
noncomputable def NextIs (code text : List Nat) (start : Nat) (must : Bool) (r : Option (Nat × Nat)) : Prop :=
  ∃ n m', M.runFor n (Sre.forSearch code.toArray text.toArray 0 start text.length must) = m' ∧ n ≤ 1000000 ∧ m'.outcome = some (if r.isSome then .matched else .failed) ∧ ∀ b e, r = some (b, e) → m'.start = b ∧ m'.handed = e
/-- the pieces of a substitution -/
inductive Subs (code text repl : List Nat) : Nat → Bool → List (List Nat) → Prop
  | stop {start must} (h : NextIs code text start must none) : Subs code text repl start must (if start < text.length then [(text.drop start).take (text.length - start)] else [])
  | step {start must b e r} (h : NextIs code text start must (some (b, e))) (t : Subs code text repl e (e == b) r) :
      Subs code text repl start must ((if start < b then [(text.drop start).take (b - start)] else []) ++ [repl] ++ r)
theorem extract_is (l : List Nat) (b e : Nat) : (l.toArray.extract b e) = ((l.drop b).take (e - b)).toArray := by
  simp [List.extract_eq_drop_take]
section
variable {c : Cx} {k : Nat} {O : Addr → Prop}
variable {MO : Model} {A : Around} {E : Value → Shared → Prop} {s : Shared}
theorem next_run {t : Builtin.Re.ReTarget} {code text : List Nat} {start : Nat} {must : Bool} {r : Option (Nat × Nat)} {Q : Option M → Shared → Prop} (ht : t.code = code.toArray ∧ t.text = text.toArray ∧ t.groups = 0 ∧ t.lim = text.length) (h : NextIs code text start must r)
    (hn : r = none → Q none s) (hs : ∀ b e m, r = some (b, e) → m.start = b → m.handed = e → Q (some m) s) : wpAny MO A (Builtin.Re.reNextFound t start must) Q E s := by
  obtain ⟨n, m', h1, h2, h3, h4⟩ := h
  obtain ⟨a1, a2, a3, a4⟩ := ht
  unfold Builtin.Re.reNextFound
  rw [a1, a2, a3, a4]
  cases r with
  | none => exact run_end (b := false) h1 h2 h3 (hn rfl)
  | some p =>
    obtain ⟨q1, q2⟩ := h4 p.1 p.2 rfl
    exact run_end (b := true) h1 h2 h3 (hs p.1 p.2 m' rfl q1 q2)
/-- the loop's list -/
noncomputable def PL (h0 h : Heap) (a : Addr) (O : Addr → Prop) (ds : List D) : Prop := Kp h0 h ∧ h0.objs.size ≤ a ∧ ∃ vs : List Value, h.IsList a vs.toArray ∧ RepL O h vs ds
theorem PL.push {h0 h : Heap} {a : Addr} {ds : List D} {v : Value} {d : D} (x : PL h0 h a O ds) (hf : ∀ d ∈ ds, d.flat = true) (r : Rep O h v d) (hd : d.flat = true) : PL h0 (h.update a (Obj.mapSeq (·.push v))) a O (ds ++ [d]) := by
  obtain ⟨k, ha, vs, ⟨o, e, hc, n, hd'⟩, hr⟩ := x
  have kk : Kp h0 (h.update a (Obj.mapSeq (·.push v))) := fun b o e => by
    have := Heap.lt_size e
    rw [Heap.get?_update_ne _ _ _ _ (Nat.ne_of_lt (Nat.lt_of_lt_of_le this ha))]
    exact k b o e
  obtain ⟨cl, dd, dt, sl⟩ := o
  simp only at hd' hc
  subst hd' hc
  refine ⟨kk, ha, vs ++ [v], ⟨_, Heap.get?_update_self _ e rfl, rfl, n + 1, by simp [Obj.mapSeq]⟩, ?_⟩
  exact (RepL.append hr (.cons r .nil)).any fun d' hd' => by
    rcases List.mem_append.mp hd' with q | q
    · exact hf _ q
    · rw [List.mem_singleton.mp q]; exact hd
theorem PL.upd {h0 : Heap} {a : Addr} {ds : List D} {v : Value} {Q : Unit → Shared → Prop} (x : PL h0 s.heap a O ds) (hz : ds.length ≤ 1000000) (h : Q () { s with heap := s.heap.update a (Obj.mapSeq (·.push v)) }) : wpAny MO A (updateSeq a (·.push v)) Q E s := by
  obtain ⟨k, ha, vs, ⟨o, e, hc, n, hd'⟩, hr⟩ := x
  have := hr.length
  exact wpAny_updateSeq e hd' h (by simp; rw [sizeLine_eq]; omega) (by simp; rw [sizeLine_eq]; omega)
end
end Mine
end
section -- W34
open PySem PySem.W PyProof.Rows PySem.Calls
set_option Elab.async false
set_option linter.all false
set_option maxRecDepth 100000
namespace Mine
open PySem.Sre (M)
section
variable {c : Cx} {k : Nat} {O : Addr → Prop}
variable {A : Around} {E : Value → Shared → Prop} {s : Shared}
theorem whole_bytes {MO : Model} {p : Addr} {code : List Nat} {x : Array UInt8} {t : Tok} {Q : Builtin.Re.ReTarget → Shared → Prop} (X : PatIs s.heap p code 1)
    (h : Q { pattern := .ref p, string := .bytes x t, code := code.toArray, text := x.map (·.toNat), kind := 1, groups := 0, pos := 0, lim := x.size } s) : wpAny MO A (Builtin.Re.reWholeTarget (.ref p) (.bytes x t)) Q E s := by
  obtain ⟨o, q, v0, v1, v3, v4, t2, t6, e, cc, d, hd, oq, n, eq, hq⟩ := X
  unfold Builtin.Re.reWholeTarget
  refine wpAny_bind ?_
  unfold fieldsOf
  refine wpAny_bind (wpAny_load e ?_)
  rw [hd]
  refine wpAny_pure ?_
  have e1 : Builtin.Re.reTextOf (.bytes x t) = pure (x.map (·.toNat), 1) := by
    unfold Builtin.Re.reTextOf Builtin.Bytes.bufferQuiet?
    rw [buffer_full]
    rfl
  refine wpAny_bind (m := Builtin.Re.reTextOf (.bytes x t)) (wpAny_of_eq (a := (x.map (·.toNat), 1)) e1 ?_)
  show wpAny _ _ (Builtin.Re.reNoCollectionInside (.bytes x t) 1 >>= _) _ _ _
  refine wpAny_bind ?_
  have e3 : Builtin.Re.reNoCollectionInside (.bytes x t) 1 = pure () := by kernel_rfl
  rw [e3]
  refine wpAny_pure ?_
  show wpAny _ _ (Builtin.Re.reRawItems (.ref q) >>= _) _ _ _
  refine wpAny_bind ?_
  unfold Builtin.Re.reRawItems
  refine wpAny_bind (wpAny_seqItems eq hq ?_)
  refine wpAny_pure (wpAny_pure ?_)
  have e2 := code_back code
  show Q { pattern := .ref p, string := .bytes x t, code := ((code.map fun (c : Nat) => Value.int (c : Int) 0).toArray.map Builtin.Re.reRawOf).map Int.toNat, text := x.map (·.toNat), kind := 1, groups := 0, pos := 0, lim := (x.map (·.toNat)).size } s
  rw [e2]
  simpa using h
theorem repl_bytes (x : Array UInt8) (t : Tok) : Builtin.Re.reLiteralCannotBeTurned (.bytes x t) = pure () := by kernel_rfl
theorem repl_str (x : Str) (t : Tok) : Builtin.Re.reLiteralCannotBeTurned (.str x t) = pure () := by kernel_rfl
noncomputable def toB (l : List Nat) : List UInt8 := l.map Nat.toUInt8
theorem slice_bytes {MO : Model} {l : List Nat} {b e : Nat} {Q : Value → Shared → Prop} (hz : l.length ≤ 1000000) (h : ∀ t, Q (.bytes (toB ((l.drop b).take (e - b))).toArray t) { s with toks := s.toks + 1 }) : wpAny MO A (Builtin.Re.reSlice l.toArray 1 b e) Q E s := by
  unfold Builtin.Re.reSlice
  rw [if_neg (by decide), extract_is]
  rw [show ((l.drop b).take (e - b)).toArray.map (·.toUInt8) = (toB ((l.drop b).take (e - b))).toArray by simp [toB]]
  refine wpAny_mkBytes (h _) ?_
  rw [sizeLine_eq]; simp [toB]; omega
theorem slice_str {MO : Model} {l : List Nat} {b e : Nat} {Q : Value → Shared → Prop} (hz : l.length ≤ 1000000) (h : ∀ t, Q (.str ⟨((l.drop b).take (e - b)).toArray⟩ t) { s with toks := s.toks + 1 }) : wpAny MO A (Builtin.Re.reSlice l.toArray 0 b e) Q E s := by
  unfold Builtin.Re.reSlice
  rw [if_pos (by decide), extract_is]
  refine wpAny_mkStr (h _) ?_
  rw [sizeLine_eq]
  show ((l.drop b).take (e - b)).toArray.size ≤ _
  simp; omega
end
end Mine
end
section -- W35
open PySem PySem.W PyProof.Rows PySem.Calls
set_option Elab.async false
set_option linter.all false
set_option maxRecDepth 100000
namespace Mine
open PySem.Sre (M)
section
variable {c : Cx} {k : Nat} {O : Addr → Prop}
variable {A : Around} {E : Value → Shared → Prop} {s : Shared}
noncomputable abbrev bD (l : List Nat) : D := .bytes (toB l)
theorem toB_flat (l : List (List Nat)) : (l.map toB).flatten = toB l.flatten := by unfold toB; rw [List.map_flatten]
theorem flat_bD : ∀ {P : List (List Nat)}, ∀ d ∈ P.map bD, d.flat = true := fun d hd => by obtain ⟨z, _, rfl⟩ := List.mem_map.mp hd; rfl
theorem loop_bytes {h0 : Heap} {p a : Addr} {code : List Nat} {x repl : List UInt8} {t1 t2 : Tok} (X : PatIs h0 p code 1) (T : Top c h0) (ob : OB O h0) (hx : x.length ≤ 100000) {R : Result → Shared → Prop} : ∀ {start : Nat} {must : Bool} {P : List (List Nat)},
    Subs code (x.map UInt8.toNat) (repl.map UInt8.toNat) start must P → ∀ {pre : List (List Nat)} {n : Nat} {s : Shared}, AOk (k + 1) A → PL h0 s.heap a O (pre.map bD) → (pre ++ P).length ≤ 100000 → (pre ++ P).flatten.length ≤ 1000000 →
    (∀ h' tk v, Kp h0 h' → Rep O h' v (.bytes (toB (pre ++ P).flatten)) → R (.ok (.ret v)) { s with heap := h', toks := tk }) →
    codeAny (MM c) A (.builtin "re.Pattern.sub.loop" ⟨[.ref p, .bytes x.toArray t1, .bytes repl.toArray t2, rawInt 0, rawInt 0, rawInt (n : Int), rawInt (start : Int), rawInt (start : Int), .bool must, .ref a, .bool false], []⟩) R s := by
  intro start must P hs
  induction hs with
  | @stop start must hn =>
    intro pre n s ao L hl hf hq
    refine codeAny_builtin entry_pat_loop ?_
    rw [Around.under_plainId plain_pat_loop]
    unfold Builtin.«re.Pattern.sub.loop»
    dsimp only
    refine wpAny_bind (whole_bytes (X.kp L.1) ?_)
    rw [if_pos (by decide), repl_bytes]
    refine wpAny_bind (wpAny_pure ?_)
    rw [if_neg (by simp)]
    refine wpAny_bind (next_run (code := code) (text := x.map UInt8.toNat) (start := start) (must := must) ⟨rfl, by simp, rfl, by simp⟩ hn (fun _ => ?_) (fun b e m q => nomatch q))
    dsimp only
    rw [Int.toNat_natCast]
    have L0 := L
    have fin : ∀ (s' : Shared), s'.gens = s.gens ∧ s'.drawn = s.drawn ∧ s'.os = s.os → PL h0 s'.heap a O ((pre ++ (if start < (x.map UInt8.toNat).length then [((x.map UInt8.toNat).drop start).take ((x.map UInt8.toNat).length - start)] else [])).map bD) →
        wpAny (MM c) A.in1 (do
          let joiner ← Builtin.Re.reSlice (x.toArray.map fun x => x.toNat) 1 0 0
          let items ← seqItems? (.ref a)
          let text ← if (items.getD #[]).isEmpty = true then pure joiner else call (.builtin "bytes.join") [joiner, .ref a]
          ret text) (fun fin s' => match fin with | .done f => R (.ok f) s' | .again c' => c'.quiet = true ∧ codeAny (MM c) A c' R s') (fun e s' => R (.error e) s') s' := by
      intro s' hs L
      obtain ⟨k1, ha, vs, hl', hr⟩ := L
      have e0 : (x.toArray.map fun x => x.toNat) = (x.map UInt8.toNat).toArray := by simp
      rw [e0]
      refine wpAny_bind (slice_bytes (by simp; omega) fun t => ?_)
      obtain ⟨o, ho, hc, n', hd⟩ := id hl'
      refine wpAny_bind (wpAny_seqItems ho hd ?_)
      have hgo : ∀ v h' tk, Kp s'.heap h' → Rep O h' v (.bytes (toB (pre ++ (if start < (x.map UInt8.toNat).length then [((x.map UInt8.toNat).drop start).take ((x.map UInt8.toNat).length - start)] else [])).flatten)) → R (.ok (.ret v)) { s' with heap := h', toks := tk } := by
        intro v h' tk kk rr
        have := hq h' tk v (k1.trans kk) rr
        obtain ⟨g1, g2, g3⟩ := hs
        rw [g1, g2, g3]
        exact this
      generalize (pre ++ (if start < (x.map UInt8.toNat).length then [((x.map UInt8.toNat).drop start).take ((x.map UInt8.toNat).length - start)] else [])) = W at *
      by_cases hv : vs = []
      · subst hv
        rw [if_pos (by simp)]
        have hW : W = [] := by
          have := hr.length
          cases W with
          | nil => rfl
          | cons => simp at this
        subst hW
        refine wpAny_bind (wpAny_pure (wpAny_pure ?_))
        exact hgo _ s'.heap _ Kp.refl (.bytes [] _)
      · rw [if_neg (by cases vs with | nil => exact absurd rfl hv | cons => simp)]
        have hno : ¬ O a := fun q => by
          obtain ⟨o', e'⟩ := ob a q
          exact absurd (Heap.lt_size e') (Nat.not_lt.mpr ha)
        have hj := (CALL.bjoin0 (c := c) (k := k) (ps := W.map toB) (by
          rw [List.map_map]
          have : (W.map (List.length ∘ toB)).sum = W.flatten.length := by rw [List.length_flatten]; congr 1; funext; simp [toB]
          rw [this]; omega))
        refine wpAny_bind (hj.run A.in1 { s' with toks := s'.toks + 1 } _ _ O [.bytes #[] t, .ref a] ao.in1 (T.kp k1) (fun b hb => let ⟨o, e⟩ := ob b hb; ⟨o, k1 _ _ e⟩) (.cons (.bytes [] t) (.cons (.list hl' hno (by rw [List.map_map]; exact hr)) .nil)) fun v h' tk kk rr => ?_)
        refine wpAny_pure ?_
        rw [toB_flat] at rr
        exact hgo v h' tk kk rr
    have e0 : (x.toArray.map fun x => x.toNat) = (x.map UInt8.toNat).toArray := by simp
    by_cases hlt : start < (x.map UInt8.toNat).length
    · rw [if_pos (by simpa using hlt)]
      rw [e0] at fin ⊢
      refine wpAny_bind (slice_bytes (by simp; omega) fun t => ?_)
      refine wpAny_bind (L.upd (s := { s with toks := s.toks + 1 }) (by simp; simp at hl; omega) ?_)
      refine fin _ ⟨rfl, rfl, rfl⟩ ?_
      rw [if_pos hlt, List.map_append]
      have := L.push (v := .bytes (toB (((x.map UInt8.toNat).drop start).take (x.toArray.size - start))).toArray t) (d := bD (((x.map UInt8.toNat).drop start).take ((x.map UInt8.toNat).length - start))) flat_bD (by simp; exact .bytes _ t) rfl
      exact this
    · rw [if_neg (by simpa using hlt)]
      refine fin s ⟨rfl, rfl, rfl⟩ ?_
      rw [if_neg hlt, List.append_nil]
      exact L
  | @step start must b e r hn _ ih =>
    intro pre n s ao L hl hf hq
    refine codeAny_builtin entry_pat_loop ?_
    rw [Around.under_plainId plain_pat_loop]
    unfold Builtin.«re.Pattern.sub.loop»
    dsimp only
    refine wpAny_bind (whole_bytes (X.kp L.1) ?_)
    rw [if_pos (by decide), repl_bytes]
    refine wpAny_bind (wpAny_pure ?_)
    rw [if_neg (by simp)]
    refine wpAny_bind (next_run (code := code) (text := x.map UInt8.toNat) (start := start) (must := must) ⟨rfl, by simp, rfl, by simp⟩ hn (fun q => nomatch q) (fun b' e' m q h1 h2 => ?_))
    cases q
    dsimp only
    rw [Int.toNat_natCast, h1, h2]
    have e0 : (x.toArray.map fun x => x.toNat) = (x.map UInt8.toNat).toArray := by simp
    have fin : ∀ (s' : Shared), s'.gens = s.gens ∧ s'.drawn = s.drawn ∧ s'.os = s.os → PL h0 s'.heap a O ((pre ++ (if start < b then [((x.map UInt8.toNat).drop start).take (b - start)] else [])).map bD) →
        wpAny (MM c) A.in1 (updateSeq a (·.push (.bytes repl.toArray t2)) >>= fun _ => again (.builtin "re.Pattern.sub.loop" ⟨[.ref p, .bytes x.toArray t1, .bytes repl.toArray t2, rawInt 0, rawInt 0, rawInt ((n : Int) + 1), rawInt (e : Int), rawInt (e : Int), .bool (e == b), .ref a, .bool false], []⟩))
          (fun fin s' => match fin with | .done f => R (.ok f) s' | .again c' => c'.quiet = true ∧ codeAny (MM c) A c' R s') (fun e s' => R (.error e) s') s' := by
      intro s' hs L
      have hW : (pre ++ (if start < b then [((x.map UInt8.toNat).drop start).take (b - start)] else [])).length ≤ 100000 := by
        simp only [List.length_append] at hl ⊢; omega
      refine wpAny_bind (L.upd (s := s') (by rw [List.length_map]; omega) (wpAny_pure ⟨plainId_quiet plain_pat_loop _, ?_⟩))
      have L2 := L.push (v := .bytes repl.toArray t2) (d := .bytes repl) flat_bD (.bytes repl t2) rfl
      have er : toB (repl.map UInt8.toNat) = repl := by unfold toB; rw [List.map_map]; simp [Function.comp_def]
      have e1 : ((pre ++ (if start < b then [((x.map UInt8.toNat).drop start).take (b - start)] else [])).map bD) ++ [.bytes repl] = ((pre ++ (if start < b then [((x.map UInt8.toNat).drop start).take (b - start)] else [])) ++ [repl.map UInt8.toNat]).map bD := by
        rw [List.map_append (l₁ := _ ++ _)]; simp [bD, er]
      rw [e1] at L2
      have hi := ih (pre := (pre ++ (if start < b then [((x.map UInt8.toNat).drop start).take (b - start)] else [])) ++ [repl.map UInt8.toNat]) (n := n + 1) (s := { s' with heap := s'.heap.update a (Obj.mapSeq (·.push (.bytes repl.toArray t2))) }) ao L2
        (by simpa [List.append_assoc] using hl) (by simpa [List.append_assoc] using hf) (fun h' tk v kk rr => by
          obtain ⟨g1, g2, g3⟩ := hs
          have := hq h' tk v kk (by simpa [List.append_assoc] using rr)
          show R _ { heap := h', gens := s'.gens, drawn := s'.drawn, toks := tk, os := s'.os }
          rw [g1, g2, g3]
          exact this)
      rw [show (((n + 1 : Nat) : Int)) = (n : Int) + 1 by omega] at hi
      exact hi
    have hx2 : (x.map UInt8.toNat).length ≤ 1000000 := by simp; omega
    by_cases hlt : start < b
    · rw [if_pos hlt, e0]
      refine wpAny_bind (slice_bytes hx2 fun t => ?_)
      refine wpAny_bind (L.upd (s := { s with toks := s.toks + 1 }) (by simp; simp at hl; omega) ?_)
      rw [if_pos (by decide)]
      refine wpAny_bind (wpAny_pure ?_)
      rw [if_pos (by rfl)]
      refine fin _ ⟨rfl, rfl, rfl⟩ ?_
      rw [if_pos hlt, List.map_append]
      exact L.push (v := .bytes (toB (((x.map UInt8.toNat).drop start).take (b - start))).toArray t) (d := bD (((x.map UInt8.toNat).drop start).take (b - start))) flat_bD (.bytes _ t) rfl
    · rw [if_neg hlt, if_pos (by decide)]
      refine wpAny_bind (wpAny_pure ?_)
      rw [if_pos (by rfl)]
      refine fin s ⟨rfl, rfl, rfl⟩ ?_
      rw [if_neg hlt, List.append_nil]
      exact L
end
end Mine
end
section -- W36
open PySem PySem.W PyProof.Rows PySem.Calls
set_option Elab.async false
set_option linter.all false
set_option maxRecDepth 100000
namespace Mine
open PySem.Sre (M)
section
variable {c : Cx} {k : Nat} {O : Addr → Prop}
variable {A : Around} {E : Value → Shared → Prop} {s : Shared}
noncomputable abbrev tD (l : List Nat) : D := .str l
theorem strs_vals {O : Addr → Prop} {h : Heap} : ∀ {vs : List Value} {ps : List (List Nat)}, RepL O h vs (ps.map .str) → ∃ l : List (Str × Tok), vs = strValues l ∧ l.map (·.1) = ps.map fun p => (⟨p.toArray⟩ : Str)
  | vs, [], r => by cases r; exact ⟨[], rfl, rfl⟩
  | vs, p :: ps, r => by
    cases r with | cons r1 r2 =>
    cases r1 with | str _ t =>
    obtain ⟨l, e1, e2⟩ := strs_vals r2
    exact ⟨(⟨p.toArray⟩, t) :: l, by rw [e1]; rfl, by rw [List.map_cons, e2]; rfl⟩
theorem join_nil : ∀ (ps : List (List Nat)), Txt.join ⟨#[]⟩ (ps.map fun p => (⟨p.toArray⟩ : Str)) = ⟨ps.flatten.toArray⟩ := by
  intro ps
  cases ps with
  | nil => rfl
  | cons p r =>
    show (⟨((r.map fun p => (⟨p.toArray⟩ : Str)).foldl (fun acc q => acc ++ (#[] : Array Nat) ++ q.cps) p.toArray)⟩ : Str) = _
    have : ∀ (r : List (List Nat)) (z : List Nat), (r.map fun p => (⟨p.toArray⟩ : Str)).foldl (fun acc q => acc ++ (#[] : Array Nat) ++ q.cps) z.toArray = (z ++ r.flatten).toArray := by
      intro r
      induction r with
      | nil => intro z; simp
      | cons a r ih =>
        intro z
        rw [List.map_cons, List.foldl_cons]
        have e : z.toArray ++ (#[] : Array Nat) ++ (⟨a.toArray⟩ : Str).cps = (z ++ a).toArray := by
          show z.toArray ++ (#[] : Array Nat) ++ a.toArray = _
          simp
        rw [e, ih]
        simp
    rw [this]
    rfl
theorem join_ok (ps : List (List Nat)) (hz : ps.flatten.length ≤ 16777216) : JoinOk ⟨#[]⟩ (ps.map fun p => (⟨p.toArray⟩ : Str)) = true := by
  unfold JoinOk
  have : ∀ (r : List (List Nat)) (z : Nat), (r.map fun p => (⟨p.toArray⟩ : Str)).foldl (fun (n : Nat) (q : Str) => n + q.length + (⟨#[]⟩ : Str).length) z = z + r.flatten.length := by
    intro r
    induction r with
    | nil => intro z; simp
    | cons a r ih =>
      intro z
      rw [List.map_cons, List.foldl_cons, ih]
      have e : (⟨a.toArray⟩ : Str).length = a.length := by show a.toArray.size = _; simp
      have e2 : (⟨#[]⟩ : Str).length = 0 := rfl
      rw [e, e2, List.flatten_cons, List.length_append]; omega
  rw [List.foldl_toArray, this]
  unfold Builtin.Str.tooLong
  rw [sizeLine_eq]
  simp only [Nat.zero_add, Bool.not_eq_true', decide_eq_false_iff_not]
  omega
theorem CALL.sjoin0 {ps : List (List Nat)} (hz : ps.flatten.length ≤ 16777216) : CALL c k (.builtin "str.join") [.str [], .list (ps.map .str)] (.str ps.flatten) := by
  refine .mk ?_
  intro A s Q E O vs ao T ob r h
  cases r with | cons r1 r2 =>
  cases r2 with | cons r2 r3 =>
  cases r3
  cases r1 with | str _ t1 =>
  cases r2 with | list hl ho rl =>
  obtain ⟨l, e1, e2⟩ := strs_vals rl
  rw [e1] at hl
  refine SC.join (x := ⟨#[]⟩) hl e2 ?_ fun t' tk => ?_
  · exact join_ok ps hz
  · rw [join_nil]
    exact h _ s.heap _ Kp.refl (.str _ t')
theorem flat_tD : ∀ {P : List (List Nat)}, ∀ d ∈ P.map tD, d.flat = true := fun d hd => by obtain ⟨z, _, rfl⟩ := List.mem_map.mp hd; rfl
theorem loop_str {h0 : Heap} {p a : Addr} {code : List Nat} {x repl : List Nat} {t1 t2 : Tok} (X : PatIs h0 p code 0) (T : Top c h0) (ob : OB O h0) (hx : x.length ≤ 100000) {R : Result → Shared → Prop} : ∀ {start : Nat} {must : Bool} {P : List (List Nat)},
    Subs code x repl start must P → ∀ {pre : List (List Nat)} {n : Nat} {s : Shared}, AOk (k + 1) A → PL h0 s.heap a O (pre.map tD) → (pre ++ P).length ≤ 100000 → (pre ++ P).flatten.length ≤ 1000000 →
    (∀ h' tk v, Kp h0 h' → Rep O h' v (.str (pre ++ P).flatten) → R (.ok (.ret v)) { s with heap := h', toks := tk }) →
    codeAny (MM c) A (.builtin "re.Pattern.sub.loop" ⟨[.ref p, .str ⟨x.toArray⟩ t1, .str ⟨repl.toArray⟩ t2, rawInt 0, rawInt 0, rawInt (n : Int), rawInt (start : Int), rawInt (start : Int), .bool must, .ref a, .bool false], []⟩) R s := by
  intro start must P hs
  induction hs with
  | @stop start must hn =>
    intro pre n s ao L hl hf hq
    refine codeAny_builtin entry_pat_loop ?_
    rw [Around.under_plainId plain_pat_loop]
    unfold Builtin.«re.Pattern.sub.loop»
    dsimp only
    refine wpAny_bind (whole_str (X.kp L.1) ?_)
    rw [if_pos (by decide), repl_str]
    refine wpAny_bind (wpAny_pure ?_)
    rw [if_neg (by simp)]
    refine wpAny_bind (next_run (code := code) (text := x) (start := start) (must := must) ⟨rfl, by simp, rfl, by simp⟩ hn (fun _ => ?_) (fun b e m q => nomatch q))
    dsimp only
    rw [Int.toNat_natCast]
    have L0 := L
    have fin : ∀ (s' : Shared), s'.gens = s.gens ∧ s'.drawn = s.drawn ∧ s'.os = s.os → PL h0 s'.heap a O ((pre ++ (if start < x.length then [(x.drop start).take (x.length - start)] else [])).map tD) →
        wpAny (MM c) A.in1 (do
          let joiner ← Builtin.Re.reSlice x.toArray 0 0 0
          let items ← seqItems? (.ref a)
          let text ← if (items.getD #[]).isEmpty = true then pure joiner else call (.builtin "str.join") [joiner, .ref a]
          ret text) (fun fin s' => match fin with | .done f => R (.ok f) s' | .again c' => c'.quiet = true ∧ codeAny (MM c) A c' R s') (fun e s' => R (.error e) s') s' := by
      intro s' hs L
      obtain ⟨k1, ha, vs, hl', hr⟩ := L
      refine wpAny_bind (slice_str (by omega) fun t => ?_)
      obtain ⟨o, ho, hc, n', hd⟩ := id hl'
      refine wpAny_bind (wpAny_seqItems ho hd ?_)
      have hgo : ∀ v h' tk, Kp s'.heap h' → Rep O h' v (.str (pre ++ (if start < x.length then [(x.drop start).take (x.length - start)] else [])).flatten) → R (.ok (.ret v)) { s' with heap := h', toks := tk } := by
        intro v h' tk kk rr
        have := hq h' tk v (k1.trans kk) rr
        obtain ⟨g1, g2, g3⟩ := hs
        rw [g1, g2, g3]
        exact this
      generalize (pre ++ (if start < x.length then [(x.drop start).take (x.length - start)] else [])) = W at *
      by_cases hv : vs = []
      · subst hv
        rw [if_pos (by simp)]
        have hW : W = [] := by
          have := hr.length
          cases W with
          | nil => rfl
          | cons => simp at this
        subst hW
        refine wpAny_bind (wpAny_pure (wpAny_pure ?_))
        exact hgo _ s'.heap _ Kp.refl (.str [] _)
      · rw [if_neg (by cases vs with | nil => exact absurd rfl hv | cons => simp)]
        have hno : ¬ O a := fun q => by
          obtain ⟨o', e'⟩ := ob a q
          exact absurd (Heap.lt_size e') (Nat.not_lt.mpr ha)
        have hj := CALL.sjoin0 (c := c) (k := k) (ps := W) (by omega)
        refine wpAny_bind (hj.run A.in1 { s' with toks := s'.toks + 1 } _ _ O [.str ⟨#[]⟩ t, .ref a] ao.in1 (T.kp k1) (fun b hb => let ⟨o, e⟩ := ob b hb; ⟨o, k1 _ _ e⟩) (.cons (.str [] t) (.cons (.list hl' hno hr) .nil)) fun v h' tk kk rr => ?_)
        refine wpAny_pure ?_
        exact hgo v h' tk kk rr
    by_cases hlt : start < x.length
    · rw [if_pos (by simpa using hlt)]
      refine wpAny_bind (slice_str (by omega) fun t => ?_)
      refine wpAny_bind (L.upd (s := { s with toks := s.toks + 1 }) (by simp; simp at hl; omega) ?_)
      refine fin _ ⟨rfl, rfl, rfl⟩ ?_
      rw [if_pos hlt, List.map_append]
      have := L.push (v := .str ⟨((x.drop start).take (x.toArray.size - start)).toArray⟩ t) (d := tD ((x.drop start).take (x.length - start))) flat_tD (by simp; exact .str _ t) rfl
      exact this
    · rw [if_neg (by simpa using hlt)]
      refine fin s ⟨rfl, rfl, rfl⟩ ?_
      rw [if_neg hlt, List.append_nil]
      exact L
  | @step start must b e r hn _ ih =>
    intro pre n s ao L hl hf hq
    refine codeAny_builtin entry_pat_loop ?_
    rw [Around.under_plainId plain_pat_loop]
    unfold Builtin.«re.Pattern.sub.loop»
    dsimp only
    refine wpAny_bind (whole_str (X.kp L.1) ?_)
    rw [if_pos (by decide), repl_str]
    refine wpAny_bind (wpAny_pure ?_)
    rw [if_neg (by simp)]
    refine wpAny_bind (next_run (code := code) (text := x) (start := start) (must := must) ⟨rfl, by simp, rfl, by simp⟩ hn (fun q => nomatch q) (fun b' e' m q h1 h2 => ?_))
    cases q
    dsimp only
    rw [Int.toNat_natCast, h1, h2]
    have fin : ∀ (s' : Shared), s'.gens = s.gens ∧ s'.drawn = s.drawn ∧ s'.os = s.os → PL h0 s'.heap a O ((pre ++ (if start < b then [(x.drop start).take (b - start)] else [])).map tD) →
        wpAny (MM c) A.in1 (updateSeq a (·.push (.str ⟨repl.toArray⟩ t2)) >>= fun _ => again (.builtin "re.Pattern.sub.loop" ⟨[.ref p, .str ⟨x.toArray⟩ t1, .str ⟨repl.toArray⟩ t2, rawInt 0, rawInt 0, rawInt ((n : Int) + 1), rawInt (e : Int), rawInt (e : Int), .bool (e == b), .ref a, .bool false], []⟩))
          (fun fin s' => match fin with | .done f => R (.ok f) s' | .again c' => c'.quiet = true ∧ codeAny (MM c) A c' R s') (fun e s' => R (.error e) s') s' := by
      intro s' hs L
      have hW : (pre ++ (if start < b then [(x.drop start).take (b - start)] else [])).length ≤ 100000 := by
        simp only [List.length_append] at hl ⊢; omega
      refine wpAny_bind (L.upd (s := s') (by rw [List.length_map]; omega) (wpAny_pure ⟨plainId_quiet plain_pat_loop _, ?_⟩))
      have L2 := L.push (v := .str ⟨repl.toArray⟩ t2) (d := .str repl) flat_tD (.str repl t2) rfl
      have e1 : ((pre ++ (if start < b then [(x.drop start).take (b - start)] else [])).map tD) ++ [.str repl] = ((pre ++ (if start < b then [(x.drop start).take (b - start)] else [])) ++ [repl]).map tD := by
        rw [List.map_append (l₁ := _ ++ _)]; simp [tD]
      rw [e1] at L2
      have hi := ih (pre := (pre ++ (if start < b then [(x.drop start).take (b - start)] else [])) ++ [repl]) (n := n + 1) (s := { s' with heap := s'.heap.update a (Obj.mapSeq (·.push (.str ⟨repl.toArray⟩ t2))) }) ao L2
        (by simpa [List.append_assoc] using hl) (by simpa [List.append_assoc] using hf) (fun h' tk v kk rr => by
          obtain ⟨g1, g2, g3⟩ := hs
          have := hq h' tk v kk (by simpa [List.append_assoc] using rr)
          show R _ { heap := h', gens := s'.gens, drawn := s'.drawn, toks := tk, os := s'.os }
          rw [g1, g2, g3]
          exact this)
      rw [show (((n + 1 : Nat) : Int)) = (n : Int) + 1 by omega] at hi
      exact hi
    have hx2 : x.length ≤ 1000000 := by omega
    by_cases hlt : start < b
    · rw [if_pos hlt]
      refine wpAny_bind (slice_str hx2 fun t => ?_)
      refine wpAny_bind (L.upd (s := { s with toks := s.toks + 1 }) (by simp; simp at hl; omega) ?_)
      rw [if_pos (by decide)]
      refine wpAny_bind (wpAny_pure ?_)
      rw [if_pos (by rfl)]
      refine fin _ ⟨rfl, rfl, rfl⟩ ?_
      rw [if_pos hlt, List.map_append]
      exact L.push (v := .str ⟨((x.drop start).take (b - start)).toArray⟩ t) (d := tD ((x.drop start).take (b - start))) flat_tD (.str _ t) rfl
    · rw [if_neg hlt, if_pos (by decide)]
      refine wpAny_bind (wpAny_pure ?_)
      rw [if_pos (by rfl)]
      refine fin s ⟨rfl, rfl, rfl⟩ ?_
      rw [if_neg hlt, List.append_nil]
      exact L
end
end Mine
end
section -- W37
open PySem PySem.W PyProof.Rows PySem.Calls
set_option Elab.async false
set_option linter.all false
set_option maxRecDepth 100000
namespace Mine
section
variable {c : Cx} {k : Nat} {O : Addr → Prop} {env : Env} {ρ : List (Str × Ent)}
variable {A : Around} {E : Value → Shared → Prop} {s : Shared}
theorem named_two (a b : Value) : Builtin.Re.reNamed "re.Pattern.sub" "sub" ["repl", "string", "count"] 2 [a, b] [] = pure [some a, some b, none] := by kernel_rfl
theorem nocall_bytes (x : Array UInt8) (t : Tok) : specialOf (.bytes x t) "__call__" = pure none := by
  exact KBy.special_eq (r := none) (by rw [typeLookup_type, builtinLookup_eq_fast]; kernel_rfl)
theorem nocall_str (x : Str) (t : Tok) : specialOf (.str x t) "__call__" = pure none := by
  have e : specialOf (.str x t) "__call__" = typeLookup (.type "str") "__call__" := rfl
  rw [e, typeLookup_type, builtinLookup_eq_fast]; kernel_rfl
theorem sub_bytes {p : Addr} {code : List Nat} (X : ∀ h, Top c h → PatIs h p code 1) {x : List UInt8} {P : List (List Nat)} (hx : x.length ≤ 100000) (hs : Subs code (x.map UInt8.toNat) [] 0 false P) (hl : P.length ≤ 100000) (hf : P.flatten.length ≤ 1000000)
    {Q : Value → Shared → Prop} {v2 : Value} {t : Tok} (ao : AOk (k + 2) A) (T : Top c s.heap) (ob : OB O s.heap) (r : Rep O s.heap v2 (.bytes x))
    (h : ∀ v h' tk, Kp s.heap h' → Rep O h' v (.bytes (toB P.flatten)) → Q v { s with heap := h', toks := tk }) : wpAny (MM c) A (call (.builtin "re.Pattern.sub") [.ref p, .bytes #[] t, v2]) Q E s := by
  cases r with | bytes _ t1 =>
  have Xp := X _ T
  obtain ⟨o, q, v0, v1, v3, v4, t2, t6, e, cc, d, hd, oq, n, eq, hq⟩ := id Xp
  have hT : s.TypeIs (.ref p) "re.Pattern" := ⟨o, e, cc⟩
  refine wpAny_call (codeAny_call_builtin slot_pat_sub.plain entry_pat_sub (slot_pat_sub.check _ _ _ _ _ _ _ _ hT (args_pat_sub _ _ _) ?_))
  show wpAny _ _ (Builtin.Re.reSubstitute "re.Pattern.sub" "sub" false ⟨[.ref p, .bytes #[] t, .bytes x.toArray t1], []⟩) _ _ s
  unfold Builtin.Re.reSubstitute
  dsimp only
  rw [named_two]
  refine wpAny_bind (wpAny_pure ?_)
  dsimp only
  refine wpAny_bind (wpAny_pure ?_)
  rw [nocall_bytes]
  refine wpAny_bind (wpAny_pure ?_)
  rw [if_neg (by simp)]
  refine wpAny_bind (m := asStr? (.bytes #[] t)) (wpAny_of_eq (a := none) rfl ?_)
  dsimp only
  have e1 : Builtin.Bytes.bufferQuiet? "re.Pattern.sub" (.bytes #[] t) = pure (some #[]) := by
    unfold Builtin.Bytes.bufferQuiet?
    rw [buffer_full]; rfl
  rw [e1]
  refine wpAny_bind (wpAny_pure ?_)
  dsimp only
  refine wpAny_bind (wpAny_pure ?_)
  rw [if_neg (by simp), if_pos (by simp)]
  refine wpAny_bind (wpAny_pure ?_)
  dsimp only
  refine wpAny_bind (wpAny_holding (whole_bytes Xp ?_))
  rw [if_neg (by decide)]
  refine wpAny_bind (wpAny_newList ?_)
  refine wpAny_pure ⟨plainId_quiet plain_pat_loop _, ?_⟩
  have L : PL s.heap (s.heap.push { cls := .type "list", data := .seq ([] : List Value).toArray }) s.heap.objs.size O (([] : List (List Nat)).map bD) :=
    ⟨Kp.push, Nat.le_refl _, [], ⟨_, Heap.get?_push_size _ rfl, rfl, _, rfl⟩, .nil⟩
  have := loop_bytes (c := c) (k := k) (O := O) (A := A) (t1 := t1) (t2 := t) (x := x) (repl := []) (R := fun r s' => match r with | .ok (.ret v) => Q v s' | .ok _ => False | .error e => E e s') Xp T ob hx hs (pre := []) (n := 0) (s := { s with heap := s.heap.push { cls := .type "list", data := .seq ([] : List Value).toArray } })
    (ao.le (by omega)) L (by simpa using hl) (by simpa using hf) (fun h' tk v kk rr => h v h' tk kk rr)
  exact this
theorem sub_str {p : Addr} {code : List Nat} (X : ∀ h, Top c h → PatIs h p code 0) {x repl : List Nat} {P : List (List Nat)} (hx : x.length ≤ 100000) (hr : repl.contains 92 = false) (hs : Subs code x repl 0 false P) (hl : P.length ≤ 100000) (hf : P.flatten.length ≤ 1000000)
    {Q : Value → Shared → Prop} {v2 : Value} {t : Tok} (ao : AOk (k + 2) A) (T : Top c s.heap) (ob : OB O s.heap) (r : Rep O s.heap v2 (.str x))
    (h : ∀ v h' tk, Kp s.heap h' → Rep O h' v (.str P.flatten) → Q v { s with heap := h', toks := tk }) : wpAny (MM c) A (call (.builtin "re.Pattern.sub") [.ref p, .str ⟨repl.toArray⟩ t, v2]) Q E s := by
  cases r with | str _ t1 =>
  have Xp := X _ T
  obtain ⟨o, q, v0, v1, v3, v4, t2, t6, e, cc, d, hd, oq, n, eq, hq⟩ := id Xp
  have hT : s.TypeIs (.ref p) "re.Pattern" := ⟨o, e, cc⟩
  refine wpAny_call (codeAny_call_builtin slot_pat_sub.plain entry_pat_sub (slot_pat_sub.check _ _ _ _ _ _ _ _ hT (args_pat_sub _ _ _) ?_))
  show wpAny _ _ (Builtin.Re.reSubstitute "re.Pattern.sub" "sub" false ⟨[.ref p, .str ⟨repl.toArray⟩ t, .str ⟨x.toArray⟩ t1], []⟩) _ _ s
  unfold Builtin.Re.reSubstitute
  dsimp only
  rw [named_two]
  refine wpAny_bind (wpAny_pure ?_)
  dsimp only
  refine wpAny_bind (wpAny_pure ?_)
  rw [nocall_str]
  refine wpAny_bind (wpAny_pure ?_)
  rw [if_neg (by simp)]
  refine wpAny_bind (m := asStr? (.str ⟨repl.toArray⟩ t)) (wpAny_of_eq (a := some ⟨repl.toArray⟩) rfl ?_)
  dsimp only
  refine wpAny_bind (wpAny_pure ?_)
  rw [if_neg (by simp), if_pos (by simpa using hr)]
  refine wpAny_bind (wpAny_pure ?_)
  dsimp only
  refine wpAny_bind (wpAny_holding (whole_str Xp ?_))
  rw [if_neg (by decide)]
  refine wpAny_bind (wpAny_newList ?_)
  refine wpAny_pure ⟨plainId_quiet plain_pat_loop _, ?_⟩
  have L : PL s.heap (s.heap.push { cls := .type "list", data := .seq ([] : List Value).toArray }) s.heap.objs.size O (([] : List (List Nat)).map tD) :=
    ⟨Kp.push, Nat.le_refl _, [], ⟨_, Heap.get?_push_size _ rfl, rfl, _, rfl⟩, .nil⟩
  have := loop_str (c := c) (k := k) (O := O) (A := A) (t1 := t1) (t2 := t) (x := x) (repl := repl) (R := fun r s' => match r with | .ok (.ret v) => Q v s' | .ok _ => False | .error e => E e s') Xp T ob hx hs (pre := []) (n := 0) (s := { s with heap := s.heap.push { cls := .type "list", data := .seq ([] : List Value).toArray } })
    (ao.le (by omega)) L (by simpa using hl) (by simpa using hf) (fun h' tk v kk rr => h v h' tk kk rr)
  exact this
/-- _pattern.sub(e1, e2) over bytes -/
theorem EV.subB {x : Str} {px apos pos : Pos} {e1 e2 : Expr} {p : Addr} {code : List Nat} (X : ∀ h, Top c h → PatIs h p code 1) (hxg : env.kindOf x = some .globalImplicit) (hm : c.mg x = some (.ref p)) {l : List UInt8} {P : List (List Nat)} (hx : l.length ≤ 100000) (hs : Subs code (l.map UInt8.toNat) [] 0 false P) (hl : P.length ≤ 100000) (hf : P.flatten.length ≤ 1000000)
    (h1 : EV c (k + 2) env O ρ e1 (.bytes [])) (h2 : EV c (k + 2) env O ρ e2 (.bytes l)) (hd : (x == ("__debug__" : Str)) = false := by decide +kernel)
    (hbase : attributeBase (.Name x px) "sub" env (eval (.Name x px) env) = eval (.Name x px) env := by rfl) (hs2 : starEach [e1, e2] env = [(false, eval e1 env), (false, eval e2 env)] := by rfl) (hline : (apos.endLine == pos.line) = true := by rfl) :
    EV c (k + 2) env O ρ (.Call (.Attribute (.Name x px) "sub" apos) [e1, e2] [] pos) (.bytes (toB P.flatten)) := by
  refine .mk ?_
  intro A s Q E ao T F h
  refine Call_method2 hbase hs2 hline (EV.globalName T F hxg hm ?_ hd)
  obtain ⟨o, q, v0, v1, v3, v4, t2, t6, e, cc, d, hd, oq, n, eq, hq⟩ := X _ T
  refine ⟨"re.Pattern", "re.Pattern.sub", plainAttrs_pat, slot_pat_sub, type_pat_sub, ⟨o, e, cc⟩, (fun a q => by cases q; exact ⟨o, e, d⟩), ?_⟩
  · refine Calls.callWith_builtin rfl (Calls.evalArgs_plain (Calls.spliced_cons (h1.run A s _ E ao T F fun v1 h1' tk1 k1 r1 => Calls.spliced_cons (h2.run A _ _ E ao (T.kp k1) (F.kp k1) fun v2 h2' tk2 k2 r2 => Calls.spliced_nil ?_))))
    cases r1 with | bytes _ tt =>
    exact sub_bytes X hx hs hl hf ao ((T.kp k1).kp k2) ((F.kp k1).kp k2).ob r2 fun v h' tk k3 r3 => h v h' tk ((k1.trans k2).trans k3) r3
/-- _pattern.sub(e1, e2) over strs -/
theorem EV.subS {x : Str} {px apos pos : Pos} {e1 e2 : Expr} {p : Addr} {code : List Nat} (X : ∀ h, Top c h → PatIs h p code 0) (hxg : env.kindOf x = some .globalImplicit) (hm : c.mg x = some (.ref p)) {l repl : List Nat} {P : List (List Nat)} (hr : repl.contains 92 = false) (hx : l.length ≤ 100000) (hs : Subs code l repl 0 false P) (hl : P.length ≤ 100000) (hf : P.flatten.length ≤ 1000000)
    (h1 : EV c (k + 2) env O ρ e1 (.str repl)) (h2 : EV c (k + 2) env O ρ e2 (.str l)) (hd : (x == ("__debug__" : Str)) = false := by decide +kernel)
    (hbase : attributeBase (.Name x px) "sub" env (eval (.Name x px) env) = eval (.Name x px) env := by rfl) (hs2 : starEach [e1, e2] env = [(false, eval e1 env), (false, eval e2 env)] := by rfl) (hline : (apos.endLine == pos.line) = true := by rfl) :
    EV c (k + 2) env O ρ (.Call (.Attribute (.Name x px) "sub" apos) [e1, e2] [] pos) (.str P.flatten) := by
  refine .mk ?_
  intro A s Q E ao T F h
  refine Call_method2 hbase hs2 hline (EV.globalName T F hxg hm ?_ hd)
  obtain ⟨o, q, v0, v1, v3, v4, t2, t6, e, cc, d, hd, oq, n, eq, hq⟩ := X _ T
  refine ⟨"re.Pattern", "re.Pattern.sub", plainAttrs_pat, slot_pat_sub, type_pat_sub, ⟨o, e, cc⟩, (fun a q => by cases q; exact ⟨o, e, d⟩), ?_⟩
  · refine Calls.callWith_builtin rfl (Calls.evalArgs_plain (Calls.spliced_cons (h1.run A s _ E ao T F fun v1 h1' tk1 k1 r1 => Calls.spliced_cons (h2.run A _ _ E ao (T.kp k1) (F.kp k1) fun v2 h2' tk2 k2 r2 => Calls.spliced_nil ?_))))
    cases r1 with | str _ tt =>
    exact sub_str X hx hr hs hl hf ao ((T.kp k1).kp k2) ((F.kp k1).kp k2).ob r2 fun v h' tk k3 r3 => h v h' tk ((k1.trans k2).trans k3) r3
end
end Mine
end
section -- W38
open PySem PySem.W PyProof.Rows PySem.Calls
set_option Elab.async false
set_option linter.all false
set_option maxRecDepth 100000
namespace Mine
open PySem.Sre (M)
/-- the search, run -/
noncomputable def findR (code text : List Nat) (start : Nat) (must : Bool) : Option (Option (Nat × Nat)) :=
  let m := M.runFor 3000 (Sre.forSearch code.toArray text.toArray 0 start text.length must)
  match m.outcome with
  | some .matched => some (some (m.start, m.handed))
  | some .failed => some none
  | _ => none
theorem findR_ok {code text : List Nat} {start : Nat} {must : Bool} {r : Option (Nat × Nat)} (h : findR code text start must = some r) : NextIs code text start must r := by
  refine ⟨3000, _, rfl, by decide, ?_, ?_⟩
  · unfold findR at h
    dsimp only at h
    split at h
    · rename_i e; rw [e]; cases h; rfl
    · rename_i e; rw [e]; cases h; rfl
    · cases h
  · intro b e q
    subst q
    unfold findR at h
    dsimp only at h
    split at h
    · cases h; exact ⟨rfl, rfl⟩
    · cases h
    · cases h
noncomputable def subR (code text repl : List Nat) : Nat → Nat → Bool → Option (List (List Nat))
  | 0, _, _ => none
  | f + 1, start, must => match findR code text start must with
    | some none => some (if start < text.length then [(text.drop start).take (text.length - start)] else [])
    | some (some (b, e)) => (subR code text repl f e (e == b)).map fun r => (if start < b then [(text.drop start).take (b - start)] else []) ++ [repl] ++ r
    | none => none
theorem subR_ok {code text repl : List Nat} : ∀ {f start : Nat} {must : Bool} {P : List (List Nat)}, subR code text repl f start must = some P → Subs code text repl start must P
  | 0, _, _, _, h => by cases h
  | f + 1, start, must, P, h => by
    unfold subR at h
    split at h
    · rename_i e; cases h; exact .stop (findR_ok e)
    · rename_i b e' e
      obtain ⟨r, hr, rfl⟩ := Option.map_eq_some_iff.mp h
      exact .step (findR_ok e) (subR_ok hr)
    · cases h
noncomputable def code1 : List Nat := [14, 4, 0, 1, 1, 6, 1, 16, 46, 1]
noncomputable def code2 : List Nat := [14, 9, 4, 1, 2, 16, 10, 16, 13, 0, 7, 7, 16, 13, 16, 10, 15, 18, 5, 16, 10, 15, 13, 11, 16, 13, 5, 5, 0, 16, 10, 1, 15, 2, 0, 1]
noncomputable def codeQ : List Nat := [14, 8, 1, 2, 4294967295, 1, 1, 34, 0, 16, 34, 28, 22, 0, 4294967295, 7, 11, 13, 7, 21, 16, 34, 16, 92, 0, 15, 8, 6, 16, 92, 2, 15, 2, 0, 1, 16, 34, 1]
noncomputable def subIs (code text repl out : List Nat) : Bool := match subR code text repl 60 0 false with
  | some P => Fast.lEq P.flatten out && Nat.ble P.length 100
  | none => false
theorem subIs_ok {code text repl out : List Nat} (h : subIs code text repl out = true) : ∃ P, Subs code text repl 0 false P ∧ P.flatten = out ∧ P.length ≤ 100 := by
  unfold subIs at h
  split at h
  · rename_i P e
    obtain ⟨h1, h2⟩ := Bool.and_eq_true_iff.mp h
    exact ⟨P, subR_ok e, Fast.lEq_iff.mp h1, Nat.le_of_ble_eq_true h2⟩
  · cases h
end Mine
end
section -- W39
open PySem PySem.W PyProof.Rows PySem.Calls
set_option Elab.async false
set_option linter.all false
set_option maxRecDepth 100000
namespace Mine
open PySem.Sre (M Op)
section
variable {text : Array Nat} {lim s : Nat} {f : Bool} {σ : Sre.Seen}
noncomputable def frS (s : Nat) (f : Bool) : Sre.Frame := { wait := .nextStart, pc := 9, pos := s, outermost := f }
/-- an attempt at s -/
noncomputable def mA (text : Array Nat) (lim s : Nat) (f : Bool) (σ : Sre.Seen) : M :=
  { code := codeQ.toArray, text, lim, start := s, lastStart := lim, pc := 9, pos := s, handed := s, outermost := f, marks := #[], frames := [frS s f], weight := 1, seen := σ }
theorem step_exec {m : M} (ho : m.outcome = none) (ha : m.answer = none) (hp : m.pc < m.code.size) : m.step = m.exec := by
  unfold M.step
  rw [ho, ha]
  simp [hp]
theorem exec_lit {m : M} {x : Nat} (h : m.code.getD m.pc 0 = 16) (hx : m.code.getD (m.pc + 1) 0 = x) (hl : m.pos < m.lim) :
    m.exec = if m.text.getD m.pos 0 == x then { m with seen := m.seen.add 16, pc := m.pc + 2, pos := m.pos + 1 } else { m with seen := m.seen.add 16 }.say false := by
  have hw : m.word 0 = 16 := h
  unfold M.exec
  rw [hw]
  have e : Sre.ops[16]? = some Op.LITERAL := by rfl
  rw [e]
  dsimp only
  rw [if_neg (by omega)]
  have ha : Sre.accepts m.code m.pc (m.text.getD m.pos 0) (m.seen.add 16) = .ok (m.text.getD m.pos 0 == x, m.seen.add 16) := by
    unfold Sre.accepts
    dsimp only
    rw [h, e]
    dsimp only
    rw [hx]
  rw [ha]
  have hwd : Sre.itemWidth m.code m.pc = 2 := by
    unfold Sre.itemWidth
    rw [h, e]
  cases q : (m.text.getD m.pos 0 == x) with
  | true => dsimp only; rw [hwd]; rfl
  | false => rfl
theorem exec_lit_end {m : M} (h : m.code.getD m.pc 0 = 16) (hl : m.lim ≤ m.pos) : m.exec = { m with seen := m.seen.add 16 }.say false := by
  have hw : m.word 0 = 16 := h
  unfold M.exec
  rw [hw]
  have e : Sre.ops[16]? = some Op.LITERAL := by rfl
  rw [e]
  dsimp only
  rw [if_pos (by omega)]
/-- a start that is no quote -/
theorem skip (hs : s < lim) (h : text.getD s 0 ≠ 34) : ∃ σ', M.runFor 2 (mA text lim s f σ) = mA text lim (s + 1) false σ' := by
  refine ⟨σ.add 16, ?_⟩
  have e1 : (mA text lim s f σ).step = { mA text lim s f σ with seen := σ.add 16 }.say false := by
    rw [step_exec rfl rfl (by show 9 < codeQ.toArray.size; decide), exec_lit (x := 34) (by rfl) (by rfl) hs, if_neg (by show ¬ ((text.getD s 0 == 34) = true); simpa using h)]
    rfl
  unfold M.runFor
  rw [if_neg (by simp [mA]), e1]
  unfold M.runFor
  rw [if_neg (by simp [mA, M.say])]
  unfold M.runFor
  show M.resume _ (frS s f) false = _
  show (if s < lim then _ else _) = _
  rw [if_pos hs]
  rfl
end
end Mine
end
section -- W40
open PySem PySem.W PyProof.Rows PySem.Calls
set_option Elab.async false
set_option linter.all false
set_option maxRecDepth 100000
namespace Mine
open PySem.Sre (M Op)
section
variable {text : Array Nat} {lim s p k : Nat} {f : Bool} {σ : Sre.Seen}
noncomputable def kW : Sre.Kept := { lastmark := -1, lastindex := -1, whole := true, marks := #[] }
noncomputable def frP (p k : Nat) (f : Bool) : Sre.Frame := { wait := .possMore, pc := 11, pos := p, outermost := f, loop := 0, count := (k : Int), kept := kW }
/-- within the loop of the quoted, at p -/
noncomputable def mC (text : Array Nat) (lim s : Nat) (f : Bool) (p k : Nat) (σ : Sre.Seen) : M :=
  { code := codeQ.toArray, text, lim, start := s, lastStart := lim, pc := 15, pos := p, handed := p, outermost := false, marks := #[], loops := #[{ pc := 0, outer := none }], inner := some 0, frames := [frP p k f, frS s f], weight := 2, seen := σ }
theorem exec_one {m : M} {o : Op} (ho : Sre.ops[m.word 0]? = some o) (h1 : o = .ANY ∨ o = .LITERAL ∨ o = .IN) (hl : m.pos < m.lim) : m.exec = match Sre.accepts m.code m.pc (m.text.getD m.pos 0) (m.seen.add (m.word 0)) with
    | .error why => M.stick { m with seen := m.seen.add (m.word 0) } why
    | .ok (false, seen) => M.say { m with seen } false
    | .ok (true, seen) => { m with seen, pc := m.pc + Sre.itemWidth m.code m.pc, pos := m.pos + 1 } := by
  unfold M.exec
  rw [ho]
  rcases h1 with rfl | rfl | rfl
  all_goals
    dsimp only
    rw [if_neg (by omega)]
    rfl
theorem poss_go {m : M} {i : Nat} {count : Int} {began : Option Nat} (h2 : m.word 2 = 0) (h3 : m.word 3 = Sre.maxRepeat) (hc : 0 ≤ count) (hb : began ≠ some m.handed) :
    m.possessive i count began = m.attempt { m.frame .possMore with pos := m.handed, loop := i, count, kept := m.keep true } (m.pc + 4) m.handed false := by
  unfold M.possessive
  rw [h2, h3]
  dsimp only
  rw [if_neg (by show ¬ count < ((0 : Nat) : Int); omega)]
  rw [if_pos (by simp [hb])]
theorem poss_stop {m : M} {i : Nat} {count : Int} (h2 : m.word 2 = 0) (h3 : m.word 3 = Sre.maxRepeat) (hc : 0 ≤ count) :
    m.possessive i count (some m.handed) = { m with inner := (m.loopAt i).outer, loops := m.loops.pop, pc := m.pc + 2 + m.word 1, pos := m.handed } := by
  unfold M.possessive
  rw [h2, h3]
  dsimp only
  rw [if_neg (by show ¬ count < ((0 : Nat) : Int); omega)]
  rw [if_neg (by simp)]
theorem runFor_step {n : Nat} {m m' : M} (ho : m.outcome = none) (h : m.step = m') : M.runFor (n + 1) m = M.runFor n m' := by
  conv => lhs; unfold M.runFor
  rw [ho, h]; rfl
noncomputable def m1 (text : Array Nat) (lim s : Nat) (f : Bool) (σ : Sre.Seen) : M := { mA text lim s f σ with seen := σ.add 16, pc := 11, pos := s + 1 }
theorem open_q (hs : s < lim) (h : text.getD s 0 = 34) : ∃ σ', M.runFor 2 (mA text lim s f σ) = mC text lim s f (s + 1) 0 σ' := by
  refine ⟨(σ.add 16).add 28, ?_⟩
  have e1 : (mA text lim s f σ).step = m1 text lim s f σ := by
    rw [step_exec rfl rfl (by show 9 < codeQ.toArray.size; decide), exec_lit (x := 34) (by rfl) (by rfl) hs, if_pos (by show (text.getD s 0 == 34) = true; simpa using h)]
    rfl
  rw [runFor_step rfl e1]
  have e2 : (m1 text lim s f σ).step = mC text lim s f (s + 1) 0 ((σ.add 16).add 28) := by
    rw [step_exec rfl rfl (by show 11 < codeQ.toArray.size; decide)]
    kernel_rfl!
  rw [runFor_step rfl e2]
  rfl
noncomputable def frB (p a : Nat) : Sre.Frame := { wait := .nextBranch, pc := a, pos := p, outermost := false, kept := kW }
/-- behind the branch's word -/
noncomputable def mD (text : Array Nat) (lim s : Nat) (f : Bool) (p k a pc q : Nat) (σ : Sre.Seen) : M :=
  { code := codeQ.toArray, text, lim, start := s, lastStart := lim, pc, pos := q, handed := p, outermost := false, marks := #[], loops := #[{ pc := 0, outer := none }], inner := some 0, frames := [frB p a, frP p k f, frS s f], weight := 3, seen := σ }
theorem branch_step : (mC text lim s f p k σ).step = mD text lim s f p k 16 17 p (σ.add 7) := by
  rw [step_exec rfl rfl (by show 15 < codeQ.toArray.size; decide)]
  kernel_rfl!
theorem jump_step {a pc : Nat} (hpc : pc = 25 ∨ pc = 31) {q : Nat} : (mD text lim s f p k a pc q σ).step = mD text lim s f p k a 34 q (σ.add 15) := by
  rcases hpc with rfl | rfl
  · rw [step_exec rfl rfl (by show 25 < codeQ.toArray.size; decide)]
    kernel_rfl!
  · rw [step_exec rfl rfl (by show 31 < codeQ.toArray.size; decide)]
    kernel_rfl!
noncomputable def mF (text : Array Nat) (lim s : Nat) (f : Bool) (p k a q : Nat) (σ : Sre.Seen) : M := { mD text lim s f p k a 34 q σ with handed := q, answer := some true }
theorem succ_step {a q : Nat} : (mD text lim s f p k a 34 q σ).step = mF text lim s f p k a q (σ.add 1) := by
  rw [step_exec rfl rfl (by show 34 < codeQ.toArray.size; decide)]
  kernel_rfl!
noncomputable def mG (text : Array Nat) (lim s : Nat) (f : Bool) (p k a q : Nat) (σ : Sre.Seen) (y : Bool) : M :=
  { code := codeQ.toArray, text, lim, start := s, lastStart := lim, pc := a, pos := p, handed := q, outermost := false, marks := #[], loops := #[{ pc := 0, outer := none }], inner := some 0, frames := [frP p k f, frS s f], weight := 2, seen := σ, answer := some y }
theorem backB_step {a q : Nat} : (mF text lim s f p k a q σ).step = mG text lim s f p k a q σ true := by kernel_rfl!
/-- the loop's word with its own frame gone -/
noncomputable def mH (text : Array Nat) (lim s : Nat) (f : Bool) (p q : Nat) (σ : Sre.Seen) : M :=
  { code := codeQ.toArray, text, lim, start := s, lastStart := lim, pc := 11, pos := p, handed := q, outermost := f, marks := #[], loops := #[{ pc := 0, outer := none }], inner := some 0, frames := [frS s f], weight := 1, seen := σ }
theorem more_step {a q : Nat} (hq : q ≠ p) : (mG text lim s f p k a q σ true).step = mC text lim s f q (k + 1) σ := by
  have e : (mG text lim s f p k a q σ true).step = (mH text lim s f p q σ).possessive 0 (((k + 1 : Nat) : Int)) (some p) := by
    unfold M.step
    rw [if_neg (by simp [mG])]
    show M.resume (mH text lim s f p q σ) (frP p k f) true = _
    unfold M.resume
    dsimp only [frP]
    rw [if_pos rfl, show ((k + 1 : Nat) : Int) = (k : Int) + 1 by omega]
  rw [e, poss_go (by rfl) (by rfl) (by omega) (by show some p ≠ some q; simp; omega)]
  kernel_rfl!
theorem success_run {a pc q : Nat} (hpc : pc = 25 ∨ pc = 31) (hq : q ≠ p) : ∃ σ', M.runFor 4 (mD text lim s f p k a pc q σ) = mC text lim s f q (k + 1) σ' := by
  refine ⟨(σ.add 15).add 1, ?_⟩
  rw [runFor_step rfl (jump_step hpc), runFor_step rfl succ_step, runFor_step rfl backB_step, runFor_step rfl (more_step hq)]
  rfl
/-- a plain sign of the quoted -/
theorem char_run (hl : p < lim) {x : Nat} (hx : x = 40 ∨ x = 41) (h : text.getD p 0 = x) : ∃ σ', M.runFor 6 (mC text lim s f p k σ) = mC text lim s f (p + 1) (k + 1) σ' := by
  have e : (mD text lim s f p k 16 17 p (σ.add 7)).step = mD text lim s f p k 16 25 (p + 1) ((((((σ.add 7).add 13).add 21).add 16).add 16).add 0) := by
    rw [step_exec rfl rfl (by show 17 < codeQ.toArray.size; decide), exec_one (o := .IN) (by rfl) (.inr (.inr rfl)) hl]
    show (match Sre.accepts codeQ.toArray 17 (text.getD p 0) ((σ.add 7).add 13) with | .error _ => _ | .ok (false, _) => _ | .ok (true, _) => _) = _
    rw [h]
    rcases hx with rfl | rfl
    · kernel_rfl!
    · kernel_rfl!
  obtain ⟨σ', e2⟩ := success_run (text := text) (lim := lim) (s := s) (f := f) (p := p) (k := k) (σ := (((((σ.add 7).add 13).add 21).add 16).add 16).add 0) (a := 16) (pc := 25) (q := p + 1) (.inl rfl) (by omega)
  refine ⟨σ', ?_⟩
  rw [runFor_step rfl branch_step, runFor_step rfl e, e2]
/-- the first way of the branch falls -/
noncomputable def mI (text : Array Nat) (lim s : Nat) (f : Bool) (p k a pc : Nat) (σ : Sre.Seen) : M := { mD text lim s f p k a pc p σ with answer := some false }
theorem in_no (hl : p < lim) {x : Nat} (hx : x = 34 ∨ x = 92) (h : text.getD p 0 = x) : ∃ σ', (mD text lim s f p k 16 17 p σ).step = mI text lim s f p k 16 17 σ' := by
  rcases hx with rfl | rfl
  · refine ⟨((σ.add 13).add 21).add 16, ?_⟩
    rw [step_exec rfl rfl (by show 17 < codeQ.toArray.size; decide), exec_one (o := .IN) (by rfl) (.inr (.inr rfl)) hl]
    show (match Sre.accepts codeQ.toArray 17 (text.getD p 0) (σ.add 13) with | .error _ => _ | .ok (false, _) => _ | .ok (true, _) => _) = _
    rw [h]
    kernel_rfl!
  · refine ⟨(((σ.add 13).add 21).add 16).add 16, ?_⟩
    rw [step_exec rfl rfl (by show 17 < codeQ.toArray.size; decide), exec_one (o := .IN) (by rfl) (.inr (.inr rfl)) hl]
    show (match Sre.accepts codeQ.toArray 17 (text.getD p 0) (σ.add 13) with | .error _ => _ | .ok (false, _) => _ | .ok (true, _) => _) = _
    rw [h]
    kernel_rfl!
theorem alt_step : (mI text lim s f p k 16 17 σ).step = mD text lim s f p k 27 28 p σ := by kernel_rfl!
theorem esc_run (hl : p + 1 < lim) (h : text.getD p 0 = 92) (h2 : text.getD (p + 1) 0 = 34) : ∃ σ', M.runFor 9 (mC text lim s f p k σ) = mC text lim s f (p + 2) (k + 1) σ' := by
  obtain ⟨σ1, e1⟩ := in_no (text := text) (lim := lim) (s := s) (f := f) (p := p) (k := k) (σ := σ.add 7) (by omega) (.inr rfl) h
  have e3 : (mD text lim s f p k 27 28 p σ1).step = mD text lim s f p k 27 30 (p + 1) (σ1.add 16) := by
    rw [step_exec rfl rfl (by show 28 < codeQ.toArray.size; decide), exec_lit (x := 92) (by rfl) (by rfl) (by show p < lim; omega), if_pos (by show (text.getD p 0 == 92) = true; simpa using h)]
    rfl
  have e4 : (mD text lim s f p k 27 30 (p + 1) (σ1.add 16)).step = mD text lim s f p k 27 31 (p + 2) ((σ1.add 16).add 2) := by
    rw [step_exec rfl rfl (by show 30 < codeQ.toArray.size; decide), exec_one (o := .ANY) (by rfl) (.inl rfl) hl]
    show (match Sre.accepts codeQ.toArray 30 (text.getD (p + 1) 0) ((σ1.add 16).add 2) with | .error _ => _ | .ok (false, _) => _ | .ok (true, _) => _) = _
    rw [h2]
    kernel_rfl!
  obtain ⟨σ', e5⟩ := success_run (text := text) (lim := lim) (s := s) (f := f) (p := p) (k := k) (σ := (σ1.add 16).add 2) (a := 27) (pc := 31) (q := p + 2) (.inr rfl) (by omega)
  refine ⟨σ', ?_⟩
  rw [runFor_step rfl branch_step, runFor_step rfl e1, runFor_step rfl alt_step, runFor_step rfl e3, runFor_step rfl e4, e5]
/-- the quoted ends -/
noncomputable def mJ (text : Array Nat) (lim s : Nat) (f : Bool) (p pc q : Nat) (σ : Sre.Seen) : M :=
  { code := codeQ.toArray, text, lim, start := s, lastStart := lim, pc, pos := q, handed := p, outermost := f, marks := #[], loops := #[], inner := none, frames := [frS s f], weight := 1, seen := σ }
theorem none_step : (mI text lim s f p k 27 28 σ).step = mG text lim s f p k 27 p σ false := by kernel_rfl!
theorem close_run (hl : p < lim) (h : text.getD p 0 = 34) : ∃ m', M.runFor 11 (mC text lim s f p k σ) = m' ∧ m'.outcome = some .matched ∧ m'.start = s ∧ m'.handed = p + 1 := by
  obtain ⟨σ1, e1⟩ := in_no (text := text) (lim := lim) (s := s) (f := f) (p := p) (k := k) (σ := σ.add 7) hl (.inl rfl) h
  have e3 : (mD text lim s f p k 27 28 p σ1).step = mI text lim s f p k 27 28 (σ1.add 16) := by
    rw [step_exec rfl rfl (by show 28 < codeQ.toArray.size; decide), exec_lit (x := 92) (by rfl) (by rfl) hl, if_neg (by show ¬ ((text.getD p 0 == 92) = true); rw [h]; decide)]
    rfl
  have e5 : (mG text lim s f p k 27 p (σ1.add 16) false).step = mJ text lim s f p 35 p (σ1.add 16) := by
    have e : (mG text lim s f p k 27 p (σ1.add 16) false).step = (mH text lim s f p p (σ1.add 16)).possessive 0 (k : Int) (some p) := by
      unfold M.step
      rw [if_neg (by simp [mG])]
      show M.resume (mH text lim s f p p (σ1.add 16)) (frP p k f) false = _
      unfold M.resume
      dsimp only [frP]
      rw [if_neg (by simp)]
      have eb : ({ (mH text lim s f p p (σ1.add 16)).putBack kW with handed := p } : M) = mH text lim s f p p (σ1.add 16) := by kernel_rfl!
      rw [eb]
    rw [e, show (some p) = some (mH text lim s f p p (σ1.add 16)).handed from rfl, poss_stop (by rfl) (by rfl) (by omega)]
    kernel_rfl!
  have e6 : (mJ text lim s f p 35 p (σ1.add 16)).step = mJ text lim s f p 37 (p + 1) ((σ1.add 16).add 16) := by
    rw [step_exec rfl rfl (by show 35 < codeQ.toArray.size; decide), exec_lit (x := 34) (by rfl) (by rfl) hl, if_pos (by show (text.getD p 0 == 34) = true; simpa using h)]
    rfl
  have e7 : (mJ text lim s f p 37 (p + 1) ((σ1.add 16).add 16)).step = { mJ text lim s f p 37 (p + 1) (((σ1.add 16).add 16).add 1) with handed := p + 1, answer := some true } := by
    rw [step_exec rfl rfl (by show 37 < codeQ.toArray.size; decide)]
    cases f <;> kernel_rfl!
  refine ⟨_, rfl, ?_⟩
  rw [runFor_step rfl branch_step, runFor_step rfl e1, runFor_step rfl alt_step, runFor_step rfl e3, runFor_step rfl none_step, runFor_step rfl e5, runFor_step rfl e6, runFor_step rfl e7]
  exact ⟨rfl, rfl, rfl⟩
end
end Mine
end
section -- W41
open PySem PySem.W PyProof.Rows PySem.Calls
set_option Elab.async false
set_option linter.all false
set_option maxRecDepth 100000
namespace Mine
open PySem.Sre (M Op)
section
variable {text : Array Nat} {lim s p k : Nat} {f : Bool} {σ : Sre.Seen}
theorem scan : ∀ (n s : Nat) (f : Bool) (σ : Sre.Seen), s + n ≤ lim → (∀ i, s ≤ i → i < s + n → text.getD i 0 ≠ 34) → ∃ f' σ', M.runFor (2 * n) (mA text lim s f σ) = mA text lim (s + n) f' σ'
  | 0, s, f, σ, _, _ => ⟨f, σ, rfl⟩
  | n + 1, s, f, σ, hl, h => by
    obtain ⟨σ1, e1⟩ := skip (text := text) (lim := lim) (s := s) (f := f) (σ := σ) (by omega) (h s (Nat.le_refl _) (by omega))
    obtain ⟨f', σ', e2⟩ := scan n (s + 1) false σ1 (by omega) fun i h1 h2 => h i (by omega) (by omega)
    refine ⟨f', σ', ?_⟩
    rw [show 2 * (n + 1) = 2 + 2 * n by omega, runFor_add, e1, e2, show s + 1 + n = s + (n + 1) by omega]
noncomputable def quoteL : Nat → List Nat
  | 0 => [34, 34]
  | 1 => [34, 40, 34]
  | _ => [34, 41, 92, 34, 34]
theorem found {j : Nat} (hl : s + (quoteL j).length ≤ lim) (h : ∀ i, i < (quoteL j).length → text.getD (s + i) 0 = (quoteL j).getD i 0) : ∃ n m', n ≤ 28 ∧ M.runFor n (mA text lim s f σ) = m' ∧ m'.outcome = some .matched ∧ m'.start = s ∧ m'.handed = s + (quoteL j).length := by
  match j with
  | 0 =>
    have hl : s + 2 ≤ lim := hl
    have t0 : text.getD s 0 = 34 := h 0 (by decide)
    have t1 : text.getD (s + 1) 0 = 34 := h 1 (by decide)
    obtain ⟨σ1, e1⟩ := open_q (text := text) (lim := lim) (s := s) (f := f) (σ := σ) (by omega) t0
    obtain ⟨m', e2, a, b, c⟩ := close_run (text := text) (lim := lim) (s := s) (f := f) (p := s + 1) (k := 0) (σ := σ1) (by omega) t1
    exact ⟨2 + 11, m', by decide, by rw [runFor_add, e1, e2], a, b, c⟩
  | 1 =>
    have hl : s + 3 ≤ lim := hl
    have t0 : text.getD s 0 = 34 := h 0 (by decide)
    have t1 : text.getD (s + 1) 0 = 40 := h 1 (by decide)
    have t2 : text.getD (s + 2) 0 = 34 := h 2 (by decide)
    obtain ⟨σ1, e1⟩ := open_q (text := text) (lim := lim) (s := s) (f := f) (σ := σ) (by omega) t0
    obtain ⟨σ2, e2⟩ := char_run (text := text) (lim := lim) (s := s) (f := f) (p := s + 1) (k := 0) (σ := σ1) (by omega) (.inl rfl) t1
    obtain ⟨m', e3, a, b, c⟩ := close_run (text := text) (lim := lim) (s := s) (f := f) (p := s + 1 + 1) (k := 0 + 1) (σ := σ2) (by omega) t2
    exact ⟨2 + (6 + 11), m', by decide, by rw [runFor_add, e1, runFor_add, e2, e3], a, b, c⟩
  | j + 2 =>
    have hl : s + 5 ≤ lim := hl
    have t0 : text.getD s 0 = 34 := h 0 (by show 0 < 5; decide)
    have t1 : text.getD (s + 1) 0 = 41 := h 1 (by show 1 < 5; decide)
    have t2 : text.getD (s + 2) 0 = 92 := h 2 (by show 2 < 5; decide)
    have t3 : text.getD (s + 3) 0 = 34 := h 3 (by show 3 < 5; decide)
    have t4 : text.getD (s + 4) 0 = 34 := h 4 (by show 4 < 5; decide)
    obtain ⟨σ1, e1⟩ := open_q (text := text) (lim := lim) (s := s) (f := f) (σ := σ) (by omega) t0
    obtain ⟨σ2, e2⟩ := char_run (text := text) (lim := lim) (s := s) (f := f) (p := s + 1) (k := 0) (σ := σ1) (by omega) (.inr rfl) t1
    obtain ⟨σ3, e3⟩ := esc_run (text := text) (lim := lim) (s := s) (f := f) (p := s + 1 + 1) (k := 0 + 1) (σ := σ2) (by omega) t2 t3
    obtain ⟨m', e4, a, b, c⟩ := close_run (text := text) (lim := lim) (s := s) (f := f) (p := s + 1 + 1 + 2) (k := 0 + 1 + 1) (σ := σ3) (by omega) t4
    exact ⟨2 + (6 + (9 + 11)), m', by decide, by rw [runFor_add, e1, runFor_add, e2, runFor_add, e3, e4], a, b, c⟩
theorem start_is (hs : s + 2 ≤ lim) : ∃ σ, Sre.forSearch codeQ.toArray text 0 s lim false = mA text lim s true σ := by
  refine ⟨({} : Sre.Seen).add 14, ?_⟩
  unfold Sre.forSearch
  dsimp only
  have h1 : ((decide (s > lim) || decide (lim - s < (Sre.header codeQ.toArray).1)) = true) = False := by
    rw [show (Sre.header codeQ.toArray).1 = 2 from by kernel_rfl!]
    simp; omega
  rw [if_neg (by rw [h1]; exact id)]
  kernel_rfl!
theorem no_room (hs : lim < s + 2) : ∃ m', M.runFor 1 (Sre.forSearch codeQ.toArray text 0 s lim false) = m' ∧ m'.outcome = some .failed := by
  refine ⟨_, rfl, ?_⟩
  unfold Sre.forSearch
  dsimp only
  have h1 : ((decide (s > lim) || decide (lim - s < (Sre.header codeQ.toArray).1)) = true) := by
    rw [show (Sre.header codeQ.toArray).1 = 2 from by kernel_rfl!]
    simp; omega
  rw [if_pos h1]
  kernel_rfl!
theorem end_run : ∃ m', M.runFor 3 (mA text lim lim f σ) = m' ∧ m'.outcome = some .failed := by
  refine ⟨_, rfl, ?_⟩
  have e1 : (mA text lim lim f σ).step = { mA text lim lim f σ with seen := σ.add 16 }.say false := by
    rw [step_exec rfl rfl (by show 9 < codeQ.toArray.size; decide), exec_lit_end (by rfl) (Nat.le_refl lim)]
    rfl
  have e2 : (({ mA text lim lim f σ with seen := σ.add 16 } : M).say false).step = { mA text lim lim f σ with seen := σ.add 16, frames := [], weight := 0, answer := some false } := by
    unfold M.step
    rw [if_neg (by simp [mA, M.say])]
    show M.resume _ (frS lim f) false = _
    show (if lim < lim then _ else _) = _
    rw [if_neg (by omega)]
    rfl
  rw [runFor_step rfl e1, runFor_step rfl e2]
  rfl
end
/-- a text by its quoted pieces -/
noncomputable def textS (segs : List (List Nat × Nat)) (tl : List Nat) : List Nat := (segs.flatMap fun p => p.1 ++ quoteL p.2) ++ tl
noncomputable def plainS (segs : List (List Nat × Nat)) (tl : List Nat) : List Nat := (segs.flatMap fun p => p.1) ++ tl
theorem getD_app {l r : List Nat} {i : Nat} : (l ++ r).toArray.getD (l.length + i) 0 = r.getD i 0 := by
  rw [Array.getD_eq_getD_getElem?, List.getElem?_toArray, List.getElem?_append_right (by omega), List.getD_eq_getElem?_getD]
  congr 2; omega
theorem quote_pos (j : Nat) : 2 ≤ (quoteL j).length ∧ (quoteL j).length ≤ 5 := by
  match j with
  | 0 => decide
  | 1 => decide
  | j + 2 => show 2 ≤ 5 ∧ 5 ≤ 5; decide
theorem subs_quoted : ∀ (segs : List (List Nat × Nat)) (tl pre : List Nat), (∀ p ∈ segs, ∀ x ∈ p.1, x ≠ 34) → (∀ x ∈ tl, x ≠ 34) → (pre ++ textS segs tl).length ≤ 10000 →
    ∃ P, Subs codeQ (pre ++ textS segs tl) [] pre.length false P ∧ P.flatten = plainS segs tl ∧ P.length ≤ 2 * segs.length + 1
  | [], tl, pre, _, ht, hz => by
    have e0 : textS [] tl = tl := rfl
    rw [e0] at hz ⊢
    refine ⟨_, .stop ?_, ?_, ?_⟩
    · by_cases h2 : (pre ++ tl).length < pre.length + 2
      · obtain ⟨m', e, o⟩ := no_room (text := (pre ++ tl).toArray) (s := pre.length) h2
        exact ⟨1, m', e, by decide, o, fun b e q => nomatch q⟩
      · obtain ⟨σ, e1⟩ := start_is (text := (pre ++ tl).toArray) (lim := (pre ++ tl).length) (s := pre.length) (by omega)
        obtain ⟨f', σ', e2⟩ := scan (text := (pre ++ tl).toArray) (lim := (pre ++ tl).length) tl.length pre.length true σ (by simp) fun i h1 h3 => by
          rw [show i = pre.length + (i - pre.length) by omega, getD_app, List.getD_eq_getElem?_getD, List.getElem?_eq_getElem (by omega)]
          exact ht _ (List.getElem_mem _)
        rw [show pre.length + tl.length = (pre ++ tl).length by simp] at e2
        obtain ⟨m', e3, o⟩ := end_run (text := (pre ++ tl).toArray) (lim := (pre ++ tl).length) (f := f') (σ := σ')
        refine ⟨2 * tl.length + 3, m', ?_, by simp at hz; omega, o, fun b e q => nomatch q⟩
        rw [e1, runFor_add, e2, e3]
    · show List.flatten (if _ then _ else _) = tl
      split
      · simp
      · rename_i h
        have : tl = [] := by
          cases tl with
          | nil => rfl
          | cons a r => exfalso; apply h; simp
        rw [this]; rfl
    · split <;> simp
  | (cs, j) :: segs, tl, pre, hc, ht, hz => by
    have e0 : textS ((cs, j) :: segs) tl = cs ++ (quoteL j ++ textS segs tl) := by simp [textS]
    have hq := quote_pos j
    have e1 : pre ++ textS ((cs, j) :: segs) tl = (pre ++ cs ++ quoteL j) ++ textS segs tl := by rw [e0]; simp
    obtain ⟨P, hP, hf, hl⟩ := subs_quoted segs tl (pre ++ cs ++ quoteL j) (fun p hp => hc p (List.mem_cons_of_mem _ hp)) ht (by rw [← e1]; exact hz)
    rw [← e1] at hP
    have hne : ((pre ++ cs ++ quoteL j).length == pre.length + cs.length) = false := by simp; intro z; rw [z] at hq; simp at hq
    refine ⟨_, .step (b := pre.length + cs.length) (e := (pre ++ cs ++ quoteL j).length) ?_ (by rw [hne]; exact hP), ?_, ?_⟩
    · have hT : (pre ++ textS ((cs, j) :: segs) tl).length = pre.length + cs.length + (quoteL j).length + (textS segs tl).length := by rw [e0]; simp; omega
      obtain ⟨σ, e2⟩ := start_is (text := (pre ++ textS ((cs, j) :: segs) tl).toArray) (lim := (pre ++ textS ((cs, j) :: segs) tl).length) (s := pre.length) (by omega)
      obtain ⟨f', σ', e3⟩ := scan (text := (pre ++ textS ((cs, j) :: segs) tl).toArray) (lim := (pre ++ textS ((cs, j) :: segs) tl).length) cs.length pre.length true σ (by omega) fun i h1 h3 => by
        rw [e0, show i = pre.length + (i - pre.length) by omega, getD_app, List.getD_eq_getElem?_getD, List.getElem?_append_left (by omega), List.getElem?_eq_getElem (by omega)]
        exact hc _ List.mem_cons_self _ (List.getElem_mem _)
      obtain ⟨n, m', hn, e4, o, a, b⟩ := found (text := (pre ++ textS ((cs, j) :: segs) tl).toArray) (lim := (pre ++ textS ((cs, j) :: segs) tl).length) (s := pre.length + cs.length) (f := f') (σ := σ') (j := j) (by omega) fun i hi => by
        rw [e0, ← List.append_assoc, show pre.length + cs.length + i = (pre ++ cs).length + i by simp, getD_app, List.getD_eq_getElem?_getD, List.getElem?_append_left hi, List.getD_eq_getElem?_getD]
      refine ⟨2 * cs.length + n, m', ?_, by omega, o, fun b' e' q => ?_⟩
      · rw [e2, runFor_add, e3, e4]
      · cases q
        exact ⟨a, by rw [b]; simp; omega⟩
    · have : (if pre.length < pre.length + cs.length then [((pre ++ textS ((cs, j) :: segs) tl).drop pre.length).take (pre.length + cs.length - pre.length)] else []).flatten = cs := by
        split
        · rw [e0]; simp
        · rename_i h
          have : cs = [] := by
            cases cs with
            | nil => rfl
            | cons a r => exfalso; apply h; simp
          rw [this]; rfl
      rw [List.flatten_append, List.flatten_append, this, hf]
      simp [plainS]
    · have : (if pre.length < pre.length + cs.length then [((pre ++ textS ((cs, j) :: segs) tl).drop pre.length).take (pre.length + cs.length - pre.length)] else []).length ≤ 1 := by split <;> simp
      simp only [List.length_append, List.length_cons, List.length_nil] at this ⊢
      omega
end Mine
end
section -- P3
open PySem PySem.W PyProof.Rows PySem.Calls
set_option Elab.async false
set_option linter.all false
set_option maxRecDepth 100000
namespace Mine
/-! the text by its skeleton -/
noncomputable def symB (cells : List Int) (y : Nat) : List UInt8 := match y with
  | 0 => [120]
  | 1 => [41]
  | i + 2 => [40] ++ quoB (cells.getD i 0) ++ [47] ++ nameB (cells.getD i 0) i ++ [47]
noncomputable def inst (cells : List Int) (sk : List Nat) : List UInt8 := sk.flatMap (symB cells)
theorem nib_small : ∀ f n, ∀ d ∈ nib f n, d < 16
  | 0, n, d, h => by simp [nib] at h
  | f + 1, n, d, h => by
    unfold nib at h
    split at h
    · cases h
    · rcases List.mem_cons.mp h with rfl | q
      · omega
      · exact nib_small f _ d q
theorem name_bytes (v : Int) (i : Nat) : ∀ x ∈ nameB v i, 65 ≤ x.toNat ∧ x.toNat ≤ 80 := by
  intro x hx
  unfold nameB apOf at hx
  obtain ⟨d, hd, rfl⟩ := List.mem_map.mp (List.mem_reverse.mp hx)
  have := nib_small _ _ d hd
  unfold encB
  rw [UInt8.toNat_ofNat']
  omega
theorem quo_is (v : Int) : ∃ j, j < 3 ∧ quoB v = (quoteL j).map Nat.toUInt8 := by
  have hj : (v / 7 % 3).toNat < 3 := by omega
  unfold quoB
  generalize (v / 7 % 3).toNat = j at hj
  match j, hj with
  | 0, _ => exact ⟨0, by decide, by decide⟩
  | 1, _ => exact ⟨1, by decide, by decide⟩
  | 2, _ => exact ⟨2, by decide, by decide⟩
theorem quo_bytes (v : Int) : ∀ x ∈ quoB v, x ≠ 120 ∧ x ≠ 47 := by
  obtain ⟨j, hj, e⟩ := quo_is v
  rw [e]
  match j, hj with
  | 0, _ => decide
  | 1, _ => decide
  | 2, _ => decide
theorem split1_free {x : UInt8} : ∀ {a : List UInt8}, x ∉ a → ∀ b, split1 x (a ++ b) = match split1 x b with | h :: t => (a ++ h) :: t | [] => [a]
  | [], _, b => by
    cases e : split1 x b with
    | nil => exact absurd e (split1_ne x b)
    | cons h t => exact e
  | y :: a, hn, b => by
    have hy : y ≠ x := fun q => hn (q ▸ List.mem_cons_self)
    have ih := split1_free (x := x) (a := a) (fun q => hn (List.mem_cons_of_mem _ q)) b
    rw [List.cons_append]
    conv => lhs; unfold split1
    rw [if_neg hy, ih]
    cases e : split1 x b with
    | nil => exact absurd e (split1_ne x b)
    | cons h t => rfl
theorem split1_hit (x : UInt8) (b : List UInt8) : split1 x (x :: b) = [] :: split1 x b := by
  conv => lhs; unfold split1
  rw [if_pos rfl]
theorem splitN_succ (y : Nat) (r : List Nat) : splitN ((y + 1) :: r) = match splitN r with | h :: t => ((y + 1) :: h) :: t | [] => [[y + 1]] := rfl
theorem splitN_ne : ∀ sk, splitN sk ≠ []
  | [] => by simp [splitN]
  | 0 :: r => by simp [splitN]
  | (y + 1) :: r => by
    unfold splitN
    dsimp only
    cases splitN r <;> simp
theorem sym_free (cells : List Int) (y : Nat) : (120 : UInt8) ∉ symB cells (y + 1) := by
  cases y with
  | zero => show (120 : UInt8) ∉ [41]; decide
  | succ i =>
    show (120 : UInt8) ∉ [40] ++ quoB _ ++ [47] ++ nameB _ i ++ [47]
    intro h
    simp only [List.mem_append, List.mem_singleton] at h
    rcases h with (((h | h) | h) | h) | h
    · exact absurd h (by decide)
    · exact (quo_bytes _ _ h).1 rfl
    · exact absurd h (by decide)
    · have := name_bytes _ _ _ h
      exact absurd this.2 (by decide)
    · exact absurd h (by decide)
theorem split_inst (cells : List Int) : ∀ sk, split1 120 (inst cells sk) = (splitN sk).map (inst cells)
  | [] => rfl
  | 0 :: r => by
    show split1 120 (120 :: inst cells r) = inst cells [] :: (splitN r).map (inst cells)
    rw [split1_hit, split_inst cells r]; rfl
  | (y + 1) :: r => by
    show split1 120 (symB cells (y + 1) ++ inst cells r) = _
    rw [split1_free (sym_free cells y), split_inst cells r, splitN_succ]
    cases e : splitN r with
    | nil => exact absurd e (splitN_ne r)
    | cons h t => rfl
theorem join_inst (cells : List Int) : ∀ ps, joinB 120 (ps.map (inst cells)) = inst cells (joinN ps)
  | [] => rfl
  | [p] => rfl
  | p :: q :: r => by
    show inst cells p ++ 120 :: joinB 120 ((q :: r).map (inst cells)) = inst cells (p ++ 0 :: joinN (q :: r))
    rw [join_inst cells (q :: r)]
    unfold inst
    rw [List.flatMap_append]
    rfl
theorem inst_app (cells : List Int) (a b : List Nat) : inst cells (a ++ b) = inst cells a ++ inst cells b := by unfold inst; rw [List.flatMap_append]
theorem text_inst (w cells : List Int) : ∀ i, textN w cells i = inst cells (skel w i)
  | 0 => rfl
  | i + 1 => by
    show textStep (textN w cells i) _ _ = inst cells (skStep (skel w i) _ i)
    unfold textStep skStep
    rw [text_inst w cells i, split_inst, ← List.map_take, ← List.map_drop, join_inst, join_inst, inst_app, inst_app]
    congr 2
    show nodeB (cells.getD i 0) i = symB cells (i + 2) ++ ([120] ++ ([120] ++ ([41] ++ [])))
    unfold nodeB
    show _ = [40] ++ quoB (cells.getD i 0) ++ [47] ++ nameB (cells.getD i 0) i ++ [47] ++ _
    simp
theorem joinN_cons (a : Nat) (h : List Nat) (t : List (List Nat)) : joinN ((a :: h) :: t) = a :: joinN (h :: t) := by
  cases t <;> rfl
theorem joinN_nil (t : List (List Nat)) (h : t ≠ []) : joinN ([] :: t) = 0 :: joinN t := by
  cases t with
  | nil => exact absurd rfl h
  | cons => rfl
theorem join_split : ∀ sk, joinN (splitN sk) = sk
  | [] => rfl
  | 0 :: r => by
    show joinN ([] :: splitN r) = _
    rw [joinN_nil _ (splitN_ne r), join_split r]
  | (y + 1) :: r => by
    have ih := join_split r
    rw [splitN_succ]
    cases e : splitN r with
    | nil => exact absurd e (splitN_ne r)
    | cons h t =>
      rw [e] at ih
      dsimp only
      rw [joinN_cons, ih]
theorem repl_is (nd : List Nat) : ∀ (sk : List Nat) (p : Nat), p < sk.count 0 → repl nd sk p = joinN ((splitN sk).take (p + 1)) ++ nd ++ joinN ((splitN sk).drop (p + 1))
  | [], p, h => by simp at h
  | 0 :: r, 0, h => by
    show nd ++ r = joinN [[]] ++ nd ++ joinN (splitN r)
    rw [join_split]; rfl
  | 0 :: r, p + 1, h => by
    have ih := repl_is nd r p (by simpa using h)
    show 0 :: repl nd r p = joinN ([] :: (splitN r).take (p + 1)) ++ nd ++ joinN ((splitN r).drop (p + 1))
    rw [ih, joinN_nil _ (by cases e : splitN r with | nil => exact absurd e (splitN_ne r) | cons => simp)]
    simp
  | (y + 1) :: r, p, h => by
    have ih := repl_is nd r p (by simpa using h)
    show (y + 1) :: repl nd r p = _
    rw [ih]
    rw [splitN_succ]
    cases e : splitN r with
    | nil => exact absurd e (splitN_ne r)
    | cons a t =>
      dsimp only
      rw [List.take_succ_cons, List.take_succ_cons, List.drop_succ_cons, List.drop_succ_cons, joinN_cons]
      rfl
theorem repl_count (i : Nat) : ∀ (sk : List Nat) (p : Nat), p < sk.count 0 → (repl [i + 2, 0, 0, 1] sk p).count 0 = sk.count 0 + 1
  | [], p, h => by simp at h
  | 0 :: r, 0, h => by
    show ((i + 2) :: 0 :: 0 :: 1 :: r).count 0 = _
    simp
  | 0 :: r, p + 1, h => by
    have ih := repl_count i r p (by simpa using h)
    show (0 :: repl _ r p).count 0 = _
    simp [ih]
  | (y + 1) :: r, p, h => by
    have ih := repl_count i r p (by simpa using h)
    show ((y + 1) :: repl _ r p).count 0 = _
    simp [ih]
theorem skel_is {w : List Int} (hv : Valid w) : ∀ i, i ≤ 6 → skel w i = skelF w i ∧ (skelF w i).count 0 = i + 1
  | 0, _ => ⟨rfl, rfl⟩
  | i + 1, h => by
    obtain ⟨a, b⟩ := skel_is hv i (by omega)
    have hi := hv.2 i (by omega)
    have hp : (w.getD i 0).toNat < (skelF w i).count 0 := by omega
    refine ⟨?_, ?_⟩
    · show skStep (skel w i) _ i = repl _ (skelF w i) _
      rw [a, repl_is _ _ _ hp]
      rfl
    · show (repl _ (skelF w i) _).count 0 = _
      rw [repl_count _ _ _ hp, b]
theorem text_is {w : List Int} (hv : Valid w) (cells : List Int) : textN w cells 6 = inst cells (skW w) := by
  rw [text_inst, (skel_is hv 6 (Nat.le_refl _)).1]
end Mine
end
section -- P4
open PySem PySem.W PyProof.Rows PySem.Calls
set_option Elab.async false
set_option linter.all false
set_option maxRecDepth 100000
namespace Mine
noncomputable def S47 (cells : List Int) (acc : List UInt8) : List Nat → List (List UInt8)
  | [] => [acc]
  | y :: r => match y with
    | 0 => S47 cells (acc ++ [120]) r
    | 1 => S47 cells (acc ++ [41]) r
    | i + 2 => (acc ++ [40] ++ quoB (cells.getD i 0)) :: nameB (cells.getD i 0) i :: S47 cells [] r
theorem name_free (v : Int) (i : Nat) : (47 : UInt8) ∉ nameB v i := fun h => absurd (name_bytes v i _ h).1 (by decide)
theorem split_47 (cells : List Int) : ∀ (sk : List Nat) (acc : List UInt8), (47 : UInt8) ∉ acc → split1 47 (acc ++ inst cells sk) = S47 cells acc sk
  | [], acc, h => by
    rw [split1_free h]
    show [acc ++ []] = [acc]
    rw [List.append_nil]
  | 0 :: r, acc, h => by
    show split1 47 (acc ++ ([120] ++ inst cells r)) = S47 cells (acc ++ [120]) r
    rw [← List.append_assoc, split_47 cells r (acc ++ [120]) (by simp [h])]
  | 1 :: r, acc, h => by
    show split1 47 (acc ++ ([41] ++ inst cells r)) = S47 cells (acc ++ [41]) r
    rw [← List.append_assoc, split_47 cells r (acc ++ [41]) (by simp [h])]
  | (i + 2) :: r, acc, h => by
    show split1 47 (acc ++ (([40] ++ quoB (cells.getD i 0) ++ [47] ++ nameB (cells.getD i 0) i ++ [47]) ++ inst cells r)) = _
    rw [show acc ++ (([40] ++ quoB (cells.getD i 0) ++ [47] ++ nameB (cells.getD i 0) i ++ [47]) ++ inst cells r) = (acc ++ [40] ++ quoB (cells.getD i 0)) ++ (47 :: (nameB (cells.getD i 0) i ++ (47 :: inst cells r))) by simp]
    rw [split1_free (by
      intro q
      simp only [List.mem_append, List.mem_singleton] at q
      rcases q with (q | q) | q
      · exact h q
      · exact absurd q (by decide)
      · exact (quo_bytes _ _ q).2 rfl), split1_hit, split1_free (name_free _ _), split1_hit]
    have := split_47 cells r [] (by simp)
    rw [List.nil_append] at this
    dsimp only
    rw [this, List.append_nil, List.append_nil]
    rfl
theorem S47_name (cells : List Int) : ∀ (sk : List Nat) (acc : List UInt8) (j i : Nat), (headsS sk)[j]? = some i → (S47 cells acc sk).getD (2 * j + 1) [] = nameB (cells.getD i 0) i
  | [], acc, j, i, h => by simp [headsS] at h
  | 0 :: r, acc, j, i, h => S47_name cells r _ j i h
  | 1 :: r, acc, j, i, h => S47_name cells r _ j i h
  | (k + 2) :: r, acc, 0, i, h => by
    have : k = i := by simpa [headsS] using h
    subst this
    rfl
  | (k + 2) :: r, acc, j + 1, i, h => by
    show (S47 cells [] r).getD (2 * j + 1) [] = _
    exact S47_name cells r [] j i h
theorem S47_len (cells : List Int) : ∀ (sk : List Nat) (acc : List UInt8), (S47 cells acc sk).length = 2 * (headsS sk).length + 1
  | [], acc => rfl
  | 0 :: r, acc => S47_len cells r _
  | 1 :: r, acc => S47_len cells r _
  | (k + 2) :: r, acc => by
    show (S47 cells [] r).length + 2 = 2 * ((headsS r).length + 1) + 1
    rw [S47_len cells r []]; omega
theorem dueN_cons (a n : List UInt8) (ps : List (List UInt8)) : ∀ k, dueN (a :: n :: ps) (k + 1) = a.count 120 + dueN ps k
  | 0 => by show 0 + a.count 120 = a.count 120 + 0; omega
  | k + 1 => by
    have ih := dueN_cons a n ps k
    show dueN (a :: n :: ps) (k + 1) + ((a :: n :: ps).getD (2 * (k + 1)) []).count 120 = a.count 120 + (dueN ps k + (ps.getD (2 * k) []).count 120)
    rw [ih, show 2 * (k + 1) = 2 * k + 1 + 1 by omega, List.getD_cons_succ, List.getD_cons_succ]
    omega
theorem dues_shift (z : Nat) : ∀ (sk : List Nat) (k : Nat), duesS (z + k) sk = (duesS k sk).map (z + ·)
  | [], k => rfl
  | 0 :: r, k => dues_shift z r (k + 1)
  | 1 :: r, k => dues_shift z r k
  | (i + 2) :: r, k => by
    show (z + k) :: duesS (z + k) r = (z + k) :: (duesS k r).map (z + ·)
    rw [dues_shift z r k]
theorem dues_len : ∀ (sk : List Nat) (k : Nat), (duesS k sk).length = (headsS sk).length
  | [], k => rfl
  | 0 :: r, k => dues_len r (k + 1)
  | 1 :: r, k => dues_len r k
  | (i + 2) :: r, k => congrArg Nat.succ (dues_len r k)
theorem S47_due (cells : List Int) : ∀ (sk : List Nat) (acc : List UInt8) (j : Nat), j < (headsS sk).length → dueN (S47 cells acc sk) (j + 1) = (duesS (acc.count 120) sk).getD j 0
  | [], acc, j, h => by simp [headsS] at h
  | 0 :: r, acc, j, h => by
    have := S47_due cells r (acc ++ [120]) j h
    rw [show List.count (120 : UInt8) (acc ++ [120]) = acc.count 120 + 1 by simp] at this
    exact this
  | 1 :: r, acc, j, h => by
    have := S47_due cells r (acc ++ [41]) j h
    rw [show List.count (120 : UInt8) (acc ++ [41]) = acc.count 120 by rw [List.count_append]; rfl] at this
    exact this
  | (i + 2) :: r, acc, j, h => by
    have hq : (acc ++ [40] ++ quoB (cells.getD i 0)).count 120 = acc.count 120 := by
      rw [List.count_append, List.count_append]
      have : (quoB (cells.getD i 0)).count 120 = 0 := List.count_eq_zero.mpr fun q => (quo_bytes _ _ q).1 rfl
      rw [this]; rfl
    show dueN ((acc ++ [40] ++ quoB (cells.getD i 0)) :: nameB (cells.getD i 0) i :: S47 cells [] r) (j + 1) = (acc.count 120 :: duesS (acc.count 120) r).getD j 0
    rw [dueN_cons, hq]
    cases j with
    | zero => rfl
    | succ j =>
      have hj : j < (headsS r).length := by
        have : (j + 1) < (headsS r).length + 1 := h
        omega
      rw [S47_due cells r [] j hj, List.getD_cons_succ]
      have e := dues_shift (acc.count 120) r 0
      rw [Nat.add_zero] at e
      rw [e]
      have hl := dues_len r 0
      show acc.count 120 + (duesS 0 r).getD j 0 = _
      rw [List.getD_eq_getElem?_getD, List.getD_eq_getElem?_getD, List.getElem?_map, List.getElem?_eq_getElem (by omega)]
      rfl
variable {w cells : List Int}
theorem split_T (hv : Valid w) : split1 47 (inst cells (skW w)) = S47 cells [] (skW w) := by
  have := split_47 cells (skW w) [] (by simp)
  rwa [List.nil_append] at this
noncomputable def ordW (w : List Int) (j : Nat) : Nat := (headsS (skW w)).getD j 0
theorem ord_ok (hv : Valid w) : ∀ j, j < 6 → ordW w j < 6 ∧ (split1 47 (inst cells (skW w))).getD (2 * j + 1) [] = nameB (cells.getD (ordW w j) 0) (ordW w j) := by
  intro j hj
  have hl := (word_ok hv).hl
  have e : (headsS (skW w))[j]? = some (ordW w j) := by
    unfold ordW
    rw [List.getD_eq_getElem?_getD, List.getElem?_eq_getElem (by omega)]; rfl
  refine ⟨(word_ok hv).h6 _ (List.mem_of_getElem? e), ?_⟩
  rw [split_T hv]
  exact S47_name cells _ _ j _ e
theorem len_ok (hv : Valid w) : 12 < (split1 47 (inst cells (skW w))).length := by
  rw [split_T hv, S47_len, (word_ok hv).hl]; omega
theorem due_ok (hv : Valid w) : dueL (inst cells (skW w)) = (duW w).map fun (n : Nat) => (n : Int) := by
  unfold dueL
  have hl := (word_ok hv).hl
  have hd := dues_len (skW w) 0
  refine List.ext_getElem (by simp [duW, hd, hl]) fun i h1 h2 => ?_
  simp only [List.length_map, List.length_range] at h1
  rw [List.getElem_map, List.getElem_map, List.getElem_range, split_T hv, S47_due cells _ _ _ (by omega)]
  show (((duesS 0 (skW w)).getD i 0 : Nat) : Int) = _
  rw [List.getD_eq_getElem?_getD, List.getElem?_eq_getElem (by omega)]
  rfl
theorem count_ok : turns w = (turnedL (ordW w)).count true := by
  unfold turns turnedL invs
  rw [List.count_flatMap]
  congr 1
  refine List.map_congr_left fun b _ => ?_
  show _ = ((List.range b).map fun a => decide (ordW w b < ordW w a)).count true
  rw [List.count_eq_countP, List.countP_map, List.countP_eq_length_filter]
  congr 1
  refine List.filter_congr fun a _ => ?_
  show _ = (decide (ordW w b < ordW w a) == true)
  unfold ordW
  simp
end Mine
end
section -- W42
open PySem PySem.W PyProof.Rows PySem.Calls
set_option Elab.async false
set_option linter.all false
set_option maxRecDepth 100000
namespace Mine
section
variable {c : Cx} {k : Nat} {env : Env} {O₀ O : Addr → Prop} {ρ ρ₁ ρ₂ : List (Str × Ent)} {h₀ h h' h1 h2 h3 : Heap}
/-- a def of the text that has defaults -/
structure FnD (c : Cx) (a : Addr) (name : Str) (xs : List Str) (body : List Stmt) (scope : Scope) : Prop where
  def_ : ∃ o params pm cd doc dV, c.K.lookup a = some o ∧ o.data = .func { docDef name params body scope pm cd doc with defaults := dV } ∧ (∀ h, Top c h → h.CodeRec cd name) ∧
    ∀ vs : List Value, vs.length = xs.length → ∀ (A : Around) (s : Shared) (Q : List (Str × Value) → Shared → Prop) (E : Value → Shared → Prop), Top c s.heap → Q (xs.zip vs) s → wpAny (MM c) A (bindArgs { docDef name params body scope pm cd doc with defaults := dV } ⟨vs, []⟩) Q E s
  params : ∀ x ∈ xs, ParamOk scope x
  nd : xs.Nodup
  co : scope.isCoroutine = false
  gen : scope.isGenerator = false
  kind : scope.kind = .function
theorem call_cells_retD {prog : Program} {w : World} {A : Around} {R : Result → Shared → Prop} {s : Shared} {name : Str} {params : Arguments} {body : List Stmt} {scope : Scope}
    {pm cd doc dV : Value} {a : Addr} {o : Obj} {args : List Value} {binds : List (Str × Value)}
    (hroom : A.depth < recursionLimit) (ho : s.heap.get? a = some o) (hdata : o.data = .func { docDef name params body scope pm cd doc with defaults := dV }) (hlim : s.heap.NoLimit) (hcd : s.heap.CodeRec cd name)
    (hbind : ∀ (A : Around) (Q : List (Str × Value) → Shared → Prop) (E : Value → Shared → Prop), Q binds s → wpAny (model prog w) A (bindArgs { docDef name params body scope pm cd doc with defaults := dV } ⟨args, []⟩) Q E s)
    (hkind : ∀ x ∈ binds, scope.names.lookup x.1 = some .local ∨ (scope.names.lookup x.1 = some .cell ∧ ((cellsFrom (s.heap.objs.size + 1) scope.names []).lookup x.1).isSome = true))
    (h : ∀ h₁ tk, Fr s.heap s.heap.objs.size h₁ (bindL (envOfC name scope s.heap.objs.size a cd).kindOf binds fun _ => none) →
      Cl s.heap.objs.size (cellsFrom (s.heap.objs.size + 1) scope.names []) h₁ (bindC (envOfC name scope s.heap.objs.size a cd).kindOf binds fun _ => none) →
      wpAny (model prog w) (A.deeper (envOfC name scope s.heap.objs.size a cd)) (execs body (envOfC name scope s.heap.objs.size a cd))
        (fun f s' => R (.ok (.ret (match f with | .ret v => v | _ => .none))) s') (fun _ _ => False) { s with heap := h₁, toks := tk })
    (hco : scope.isCoroutine = false) (hgen : scope.isGenerator = false) (hk : scope.kind = .function) :
    codeAny (model prog w) A (.call (.ref a) ⟨args, []⟩) R s := by
  refine codeAny_call_function (fd := { docDef name params body scope pm cd doc with defaults := dV }) hroom ho hdata hco hgen rfl hcd ?_
  refine hbind _ _ _ (wpAny_newFunctionEnv_cells hk hkind fun env he s' x => ?_)
  subst he
  refine ⟨hlim.keeps x.toInCall.keep, codeAny_func ?_⟩
  obtain ⟨h₁, tk, rfl, _⟩ := x.done
  exact wpAny_mono (h h₁ tk ⟨x.toInCall.ns, x.toInCall.keep, x.toInCall.fresh⟩ ⟨x.cell, x.apart, x.above⟩) (fun _ _ x => x) (fun _ _ x => x.elim)
noncomputable def loadK {α : Type} : Sem α → Obj → Sem α
  | .load _ _ k, o => k o
  | m, _ => m
theorem wpAny_node {MO : Model} {A : Around} {α : Type} {a : Addr} {q : Option Value} {k : Obj → Sem α} {o : Obj} {Q : α → Shared → Prop} {E : Value → Shared → Prop} {s : Shared} (ho : s.heap.get? a = some o) (h : wpAny MO A (k o) Q E s) : wpAny MO A (.load a q k) Q E s :=
  fun Γ p hΓ => ⟨o, ho, h Γ p hΓ⟩
theorem FnD.enter {a : Addr} {name : Str} {xs : List Str} {body : List Stmt} {scope : Scope} {ds : List D} {d : D} (X : FnD c a name xs body scope) (hl : xs.length = ds.length)
    (hb : ∀ (O₀ : Addr → Prop) (L : Addr) (cd : Value), XS c k (envOfC name scope L a cd) O₀ (xs.zip (ds.map .val)) body (.ret d)) : CALL c (k + 1) (.ref a) ds d := by
  refine .mk ?_
  intro A s Q E O vs ao T ob r h
  obtain ⟨o, params, pm, cd, doc, dV, hK, hd, hcd, hbind⟩ := X.def_
  have hvl : vs.length = xs.length := by rw [r.length, hl]
  have hzn : (xs.zip vs).map (·.1) = xs := zip_names hvl.symm
  refine wpAny_call ?_
  refine call_cells_retD (by have := ao.depth; omega) (T.k _ _ hK) hd T.lim (hcd _ T) (fun A Q E hq => hbind vs hvl A s Q E T hq) (fun x hx => ?_) (fun h₁ tk F C => ?_) X.co X.gen X.kind
  · have hx' : x.1 ∈ xs := hzn ▸ List.mem_map.mpr ⟨x, hx, rfl⟩
    rcases X.params _ hx' with q | q
    · exact .inl q
    · obtain ⟨b, hb⟩ := cells_of (n := s.heap.objs.size + 1) q
      exact .inr ⟨q, by rw [hb]; rfl⟩
  · have ao' : AOk k (A.deeper (envOfC name scope s.heap.objs.size a cd)) := ⟨ao.handled, by have := ao.depth; show A.depth + 1 + k < _; omega, by have := ao.units; show A.units + 3 + 20 * k + 20 < _; omega⟩
    have FSx : FS (envOfC name scope s.heap.objs.size a cd) s.heap O (xs.zip (ds.map .val)) h₁ := by
      refine ⟨⟨X.kind, rfl, rfl, fun x e hm => ?_, fun b hb => ?_⟩, F.keep, ⟨_, F.ns⟩, Nat.le_refl _, fun n b e2 => ?_, fun n n' b e1 e2 => ?_, ?_, ?_, ?_, fun b hb => ?_⟩
      · obtain ⟨v, hv, he⟩ := zip_reps r hm
        have hx' : x ∈ xs := hzn ▸ List.mem_map.mpr ⟨_, hv, rfl⟩
        refine ⟨v, ?_, ?_⟩
        · rcases X.params _ hx' with q | q
          · exact .inl ⟨q, _, F.ns, bindL_mem (by rw [hzn]; exact X.nd) hv q⟩
          · obtain ⟨b, hb⟩ := cells_of (n := s.heap.objs.size + 1) q
            have hc := C.cell x b hb
            have q' : (envOfC name scope s.heap.objs.size a cd).kindOf x = some .cell := q
            rw [bindC_mem (by rw [hzn]; exact X.nd) hv (by rw [q']; intro z; cases z)] at hc
            exact .inr ⟨q, b, hb, hc⟩
        · have hh := he.kp F.keep
          cases e with
          | val d =>
            refine Rep.sub hh fun b q => ?_
            rcases q with q | q
            · exact q
            · rw [zip_own] at q; cases q
          | own b ds' => have := addr_own hm (a := b) rfl; rw [zip_own] at this; cases this
          | app b ds' => have := addr_own hm (a := b) rfl; rw [zip_own] at this; cases this
      · rcases hb with q | q
        · obtain ⟨o, e⟩ := ob b q
          exact ⟨o, F.keep _ _ e⟩
        · rw [zip_own] at q; cases q
      · exact ⟨Nat.le_of_lt (C.above n b (mem_of_lookup e2)), _, C.cell n b e2⟩
      · exact name_of_addr C.apart (mem_of_lookup e1) (mem_of_lookup e2)
      · intro b hb; rw [zip_own] at hb; cases hb
      · rw [zip_own]; exact List.nodup_nil
      · rw [zip_names (by simp [hl])]; exact X.nd
      · obtain ⟨o, e⟩ := ob b hb
        exact Heap.lt_size e
    refine (hb O s.heap.objs.size cd).run _ _ _ _ s.heap ao' T FSx fun fl h' tk' oi => ?_
    obtain ⟨v, rfl, kp, rv⟩ := oi
    exact h v h' tk' kp rv
end
end Mine
end
section -- H0
open PySem PySem.W PyProof.Rows PySem.Calls
set_option Elab.async false
set_option linter.all false
set_option maxRecDepth 100000
namespace Mine
namespace Hd
noncomputable abbrev kh (P : Params) (s : Str) : Int := PyData.keyHash P s
noncomputable def ob0 (P : Params) : Obj := ⟨(.type "dict"),none,(.dict ⟨[⟨kh P ⟨⟨[95,95,110,97,109,101,95,95]⟩⟩,(.str ⟨⟨[95,95,110,97,109,101,95,95]⟩⟩ 1),(.str ⟨⟨[98,117,105,108,116,105,110,115]⟩⟩ 160)⟩,⟨kh P ⟨⟨[95,95,100,111,99,95,95]⟩⟩,(.str ⟨⟨[95,95,100,111,99,95,95]⟩⟩ 2),(.builtin "builtins.__doc__:str#opaque")⟩,⟨kh P ⟨⟨[95,95,112,97,99,107,97,103,101,95,95]⟩⟩,(.str ⟨⟨[95,95,112,97,99,107,97,103,101,95,95]⟩⟩ 3),(.builtin "builtins.__package__:str#opaque")⟩,⟨kh P ⟨⟨[95,95,108,111,97,100,101,114,95,95]⟩⟩,(.str ⟨⟨[95,95,108,111,97,100,101,114,95,95]⟩⟩ 4),(.builtin "builtins.__loader__:shared#opaque")⟩,⟨kh P ⟨⟨[95,95,115,112,101,99,95,95]⟩⟩,(.str ⟨⟨[95,95,115,112,101,99,95,95]⟩⟩ 5),(.builtin "builtins.__spec__#opaque")⟩,⟨kh P ⟨⟨[95,95,98,117,105,108,100,95,99,108,97,115,115,95,95]⟩⟩,(.str ⟨⟨[95,95,98,117,105,108,100,95,99,108,97,115,115,95,95]⟩⟩ 6),(.builtin "__build_class__")⟩,⟨kh P ⟨⟨[95,95,105,109,112,111,114,116,95,95]⟩⟩,(.str ⟨⟨[95,95,105,109,112,111,114,116,95,95]⟩⟩ 7),(.builtin "__import__")⟩,⟨kh P ⟨⟨[97,98,115]⟩⟩,(.str ⟨⟨[97,98,115]⟩⟩ 8),(.builtin "abs")⟩,⟨kh P ⟨⟨[97,108,108]⟩⟩,(.str ⟨⟨[97,108,108]⟩⟩ 9),(.builtin "all")⟩,⟨kh P ⟨⟨[97,110,121]⟩⟩,(.str ⟨⟨[97,110,121]⟩⟩ 10),(.builtin "any")⟩,⟨kh P ⟨⟨[97,115,99,105,105]⟩⟩,(.str ⟨⟨[97,115,99,105,105]⟩⟩ 11),(.builtin "ascii")⟩,⟨kh P ⟨⟨[98,105,110]⟩⟩,(.str ⟨⟨[98,105,110]⟩⟩ 12),(.builtin "bin")⟩,⟨kh P ⟨⟨[98,114,101,97,107,112,111,105,110,116]⟩⟩,(.str ⟨⟨[98,114,101,97,107,112,111,105,110,116]⟩⟩ 13),(.builtin "breakpoint")⟩,⟨kh P ⟨⟨[99,97,108,108,97,98,108,101]⟩⟩,(.str ⟨⟨[99,97,108,108,97,98,108,101]⟩⟩ 14),(.builtin "callable")⟩,⟨kh P ⟨⟨[99,104,114]⟩⟩,(.str ⟨⟨[99,104,114]⟩⟩ 15),(.builtin "chr")⟩,⟨kh P ⟨⟨[99,111,109,112,105,108,101]⟩⟩,(.str ⟨⟨[99,111,109,112,105,108,101]⟩⟩ 16),(.builtin "compile")⟩,⟨kh P ⟨⟨[100,101,108,97,116,116,114]⟩⟩,(.str ⟨⟨[100,101,108,97,116,116,114]⟩⟩ 17),(.builtin "delattr")⟩,⟨kh P ⟨⟨[100,105,114]⟩⟩,(.str ⟨⟨[100,105,114]⟩⟩ 18),(.builtin "dir")⟩,⟨kh P ⟨⟨[100,105,118,109,111,100]⟩⟩,(.str ⟨⟨[100,105,118,109,111,100]⟩⟩ 19),(.builtin "divmod")⟩,⟨kh P ⟨⟨[101,118,97,108]⟩⟩,(.str ⟨⟨[101,118,97,108]⟩⟩ 20),(.builtin "eval")⟩,⟨kh P ⟨⟨[101,120,101,99]⟩⟩,(.str ⟨⟨[101,120,101,99]⟩⟩ 21),(.builtin "exec")⟩,⟨kh P ⟨⟨[102,111,114,109,97,116]⟩⟩,(.str ⟨⟨[102,111,114,109,97,116]⟩⟩ 22),(.builtin "format")⟩,⟨kh P ⟨⟨[103,101,116,97,116,116,114]⟩⟩,(.str ⟨⟨[103,101,116,97,116,116,114]⟩⟩ 23),(.builtin "getattr")⟩,⟨kh P ⟨⟨[103,108,111,98,97,108,115]⟩⟩,(.str ⟨⟨[103,108,111,98,97,108,115]⟩⟩ 24),(.builtin "globals")⟩,⟨kh P ⟨⟨[104,97,115,97,116,116,114]⟩⟩,(.str ⟨⟨[104,97,115,97,116,116,114]⟩⟩ 25),(.builtin "hasattr")⟩,⟨kh P ⟨⟨[104,97,115,104]⟩⟩,(.str ⟨⟨[104,97,115,104]⟩⟩ 26),(.builtin "hash")⟩,⟨kh P ⟨⟨[104,101,120]⟩⟩,(.str ⟨⟨[104,101,120]⟩⟩ 27),(.builtin "hex")⟩,⟨kh P ⟨⟨[105,100]⟩⟩,(.str ⟨⟨[105,100]⟩⟩ 28),(.builtin "id")⟩,⟨kh P ⟨⟨[105,110,112,117,116]⟩⟩,(.str ⟨⟨[105,110,112,117,116]⟩⟩ 29),(.builtin "input")⟩,⟨kh P ⟨⟨[105,115,105,110,115,116,97,110,99,101]⟩⟩,(.str ⟨⟨[105,115,105,110,115,116,97,110,99,101]⟩⟩ 30),(.builtin "isinstance")⟩,⟨kh P ⟨⟨[105,115,115,117,98,99,108,97,115,115]⟩⟩,(.str ⟨⟨[105,115,115,117,98,99,108,97,115,115]⟩⟩ 31),(.builtin "issubclass")⟩,⟨kh P ⟨⟨[105,116,101,114]⟩⟩,(.str ⟨⟨[105,116,101,114]⟩⟩ 32),(.builtin "iter")⟩,⟨kh P ⟨⟨[97,105,116,101,114]⟩⟩,(.str ⟨⟨[97,105,116,101,114]⟩⟩ 33),(.builtin "aiter")⟩,⟨kh P ⟨⟨[108,101,110]⟩⟩,(.str ⟨⟨[108,101,110]⟩⟩ 34),(.builtin "len")⟩,⟨kh P ⟨⟨[108,111,99,97,108,115]⟩⟩,(.str ⟨⟨[108,111,99,97,108,115]⟩⟩ 35),(.builtin "locals")⟩,⟨kh P ⟨⟨[109,97,120]⟩⟩,(.str ⟨⟨[109,97,120]⟩⟩ 36),(.builtin "max")⟩,⟨kh P ⟨⟨[109,105,110]⟩⟩,(.str ⟨⟨[109,105,110]⟩⟩ 37),(.builtin "min")⟩,⟨kh P ⟨⟨[110,101,120,116]⟩⟩,(.str ⟨⟨[110,101,120,116]⟩⟩ 38),(.builtin "next")⟩,⟨kh P ⟨⟨[97,110,101,120,116]⟩⟩,(.str ⟨⟨[97,110,101,120,116]⟩⟩ 39),(.builtin "anext")⟩,⟨kh P ⟨⟨[111,99,116]⟩⟩,(.str ⟨⟨[111,99,116]⟩⟩ 40),(.builtin "oct")⟩,⟨kh P ⟨⟨[111,114,100]⟩⟩,(.str ⟨⟨[111,114,100]⟩⟩ 41),(.builtin "ord")⟩,⟨kh P ⟨⟨[112,111,119]⟩⟩,(.str ⟨⟨[112,111,119]⟩⟩ 42),(.builtin "pow")⟩,⟨kh P ⟨⟨[112,114,105,110,116]⟩⟩,(.str ⟨⟨[112,114,105,110,116]⟩⟩ 43),(.builtin "print")⟩,⟨kh P ⟨⟨[114,101,112,114]⟩⟩,(.str ⟨⟨[114,101,112,114]⟩⟩ 44),(.builtin "repr")⟩,⟨kh P ⟨⟨[114,111,117,110,100]⟩⟩,(.str ⟨⟨[114,111,117,110,100]⟩⟩ 45),(.builtin "round")⟩,⟨kh P ⟨⟨[115,101,116,97,116,116,114]⟩⟩,(.str ⟨⟨[115,101,116,97,116,116,114]⟩⟩ 46),(.builtin "setattr")⟩,⟨kh P ⟨⟨[115,111,114,116,101,100]⟩⟩,(.str ⟨⟨[115,111,114,116,101,100]⟩⟩ 47),(.builtin "sorted")⟩,⟨kh P ⟨⟨[115,117,109]⟩⟩,(.str ⟨⟨[115,117,109]⟩⟩ 48),(.builtin "sum")⟩,⟨kh P ⟨⟨[118,97,114,115]⟩⟩,(.str ⟨⟨[118,97,114,115]⟩⟩ 49),(.builtin "vars")⟩,⟨kh P ⟨⟨[78,111,110,101]⟩⟩,(.str ⟨⟨[78,111,110,101]⟩⟩ 50),.none⟩,⟨kh P ⟨⟨[69,108,108,105,112,115,105,115]⟩⟩,(.str ⟨⟨[69,108,108,105,112,115,105,115]⟩⟩ 51),.ellipsis⟩,⟨kh P ⟨⟨[78,111,116,73,109,112,108,101,109,101,110,116,101,100]⟩⟩,(.str ⟨⟨[78,111,116,73,109,112,108,101,109,101,110,116,101,100]⟩⟩ 52),.notImplemented⟩,⟨kh P ⟨⟨[70,97,108,115,101]⟩⟩,(.str ⟨⟨[70,97,108,115,101]⟩⟩ 53),(.bool false)⟩,⟨kh P ⟨⟨[84,114,117,101]⟩⟩,(.str ⟨⟨[84,114,117,101]⟩⟩ 54),(.bool true)⟩,⟨kh P ⟨⟨[98,111,111,108]⟩⟩,(.str ⟨⟨[98,111,111,108]⟩⟩ 55),(.type "bool")⟩,⟨kh P ⟨⟨[109,101,109,111,114,121,118,105,101,119]⟩⟩,(.str ⟨⟨[109,101,109,111,114,121,118,105,101,119]⟩⟩ 56),(.type "memoryview")⟩,⟨kh P ⟨⟨[98,121,116,101,97,114,114,97,121]⟩⟩,(.str ⟨⟨[98,121,116,101,97,114,114,97,121]⟩⟩ 57),(.type "bytearray")⟩,⟨kh P ⟨⟨[98,121,116,101,115]⟩⟩,(.str ⟨⟨[98,121,116,101,115]⟩⟩ 58),(.type "bytes")⟩,⟨kh P ⟨⟨[99,108,97,115,115,109,101,116,104,111,100]⟩⟩,(.str ⟨⟨[99,108,97,115,115,109,101,116,104,111,100]⟩⟩ 59),(.type "classmethod")⟩,⟨kh P ⟨⟨[99,111,109,112,108,101,120]⟩⟩,(.str ⟨⟨[99,111,109,112,108,101,120]⟩⟩ 60),(.type "complex")⟩,⟨kh P ⟨⟨[100,105,99,116]⟩⟩,(.str ⟨⟨[100,105,99,116]⟩⟩ 61),(.type "dict")⟩,⟨kh P ⟨⟨[101,110,117,109,101,114,97,116,101]⟩⟩,(.str ⟨⟨[101,110,117,109,101,114,97,116,101]⟩⟩ 62),(.type "enumerate")⟩,⟨kh P ⟨⟨[102,105,108,116,101,114]⟩⟩,(.str ⟨⟨[102,105,108,116,101,114]⟩⟩ 63),(.type "filter")⟩,⟨kh P ⟨⟨[102,108,111,97,116]⟩⟩,(.str ⟨⟨[102,108,111,97,116]⟩⟩ 64),(.type "float")⟩,⟨kh P ⟨⟨[102,114,111,122,101,110,115,101,116]⟩⟩,(.str ⟨⟨[102,114,111,122,101,110,115,101,116]⟩⟩ 65),(.type "frozenset")⟩,⟨kh P ⟨⟨[112,114,111,112,101,114,116,121]⟩⟩,(.str ⟨⟨[112,114,111,112,101,114,116,121]⟩⟩ 66),(.type "property")⟩,⟨kh P ⟨⟨[105,110,116]⟩⟩,(.str ⟨⟨[105,110,116]⟩⟩ 67),(.type "int")⟩,⟨kh P ⟨⟨[108,105,115,116]⟩⟩,(.str ⟨⟨[108,105,115,116]⟩⟩ 68),(.type "list")⟩,⟨kh P ⟨⟨[109,97,112]⟩⟩,(.str ⟨⟨[109,97,112]⟩⟩ 69),(.type "map")⟩,⟨kh P ⟨⟨[111,98,106,101,99,116]⟩⟩,(.str ⟨⟨[111,98,106,101,99,116]⟩⟩ 70),(.type "object")⟩,⟨kh P ⟨⟨[114,97,110,103,101]⟩⟩,(.str ⟨⟨[114,97,110,103,101]⟩⟩ 71),(.type "range")⟩,⟨kh P ⟨⟨[114,101,118,101,114,115,101,100]⟩⟩,(.str ⟨⟨[114,101,118,101,114,115,101,100]⟩⟩ 72),(.type "reversed")⟩,⟨kh P ⟨⟨[115,101,116]⟩⟩,(.str ⟨⟨[115,101,116]⟩⟩ 73),(.type "set")⟩,⟨kh P ⟨⟨[115,108,105,99,101]⟩⟩,(.str ⟨⟨[115,108,105,99,101]⟩⟩ 74),(.type "slice")⟩,⟨kh P ⟨⟨[115,116,97,116,105,99,109,101,116,104,111,100]⟩⟩,(.str ⟨⟨[115,116,97,116,105,99,109,101,116,104,111,100]⟩⟩ 75),(.type "staticmethod")⟩,⟨kh P ⟨⟨[115,116,114]⟩⟩,(.str ⟨⟨[115,116,114]⟩⟩ 76),(.type "str")⟩,⟨kh P ⟨⟨[115,117,112,101,114]⟩⟩,(.str ⟨⟨[115,117,112,101,114]⟩⟩ 77),(.type "super")⟩,⟨kh P ⟨⟨[116,117,112,108,101]⟩⟩,(.str ⟨⟨[116,117,112,108,101]⟩⟩ 78),(.type "tuple")⟩,⟨kh P ⟨⟨[116,121,112,101]⟩⟩,(.str ⟨⟨[116,121,112,101]⟩⟩ 79),(.type "type")⟩,⟨kh P ⟨⟨[122,105,112]⟩⟩,(.str ⟨⟨[122,105,112]⟩⟩ 80),(.type "zip")⟩,⟨kh P ⟨⟨[95,95,100,101,98,117,103,95,95]⟩⟩,(.str ⟨⟨[95,95,100,101,98,117,103,95,95]⟩⟩ 81),(.bool true)⟩,⟨kh P ⟨⟨[66,97,115,101,69,120,99,101,112,116,105,111,110]⟩⟩,(.str ⟨⟨[66,97,115,101,69,120,99,101,112,116,105,111,110]⟩⟩ 82),(.type "BaseException")⟩,⟨kh P ⟨⟨[66,97,115,101,69,120,99,101,112,116,105,111,110,71,114,111,117,112]⟩⟩,(.str ⟨⟨[66,97,115,101,69,120,99,101,112,116,105,111,110,71,114,111,117,112]⟩⟩ 83),(.type "BaseExceptionGroup")⟩,⟨kh P ⟨⟨[69,120,99,101,112,116,105,111,110]⟩⟩,(.str ⟨⟨[69,120,99,101,112,116,105,111,110]⟩⟩ 84),(.type "Exception")⟩,⟨kh P ⟨⟨[71,101,110,101,114,97,116,111,114,69,120,105,116]⟩⟩,(.str ⟨⟨[71,101,110,101,114,97,116,111,114,69,120,105,116]⟩⟩ 85),(.type "GeneratorExit")⟩,⟨kh P ⟨⟨[75,101,121,98,111,97,114,100,73,110,116,101,114,114,117,112,116]⟩⟩,(.str ⟨⟨[75,101,121,98,111,97,114,100,73,110,116,101,114,114,117,112,116]⟩⟩ 86),(.type "KeyboardInterrupt")⟩,⟨kh P ⟨⟨[83,121,115,116,101,109,69,120,105,116]⟩⟩,(.str ⟨⟨[83,121,115,116,101,109,69,120,105,116]⟩⟩ 87),(.type "SystemExit")⟩,⟨kh P ⟨⟨[65,114,105,116,104,109,101,116,105,99,69,114,114,111,114]⟩⟩,(.str ⟨⟨[65,114,105,116,104,109,101,116,105,99,69,114,114,111,114]⟩⟩ 88),(.type "ArithmeticError")⟩,⟨kh P ⟨⟨[65,115,115,101,114,116,105,111,110,69,114,114,111,114]⟩⟩,(.str ⟨⟨[65,115,115,101,114,116,105,111,110,69,114,114,111,114]⟩⟩ 89),(.type "AssertionError")⟩,⟨kh P ⟨⟨[65,116,116,114,105,98,117,116,101,69,114,114,111,114]⟩⟩,(.str ⟨⟨[65,116,116,114,105,98,117,116,101,69,114,114,111,114]⟩⟩ 90),(.type "AttributeError")⟩,⟨kh P ⟨⟨[66,117,102,102,101,114,69,114,114,111,114]⟩⟩,(.str ⟨⟨[66,117,102,102,101,114,69,114,114,111,114]⟩⟩ 91),(.type "BufferError")⟩,⟨kh P ⟨⟨[69,79,70,69,114,114,111,114]⟩⟩,(.str ⟨⟨[69,79,70,69,114,114,111,114]⟩⟩ 92),(.type "EOFError")⟩,⟨kh P ⟨⟨[73,109,112,111,114,116,69,114,114,111,114]⟩⟩,(.str ⟨⟨[73,109,112,111,114,116,69,114,114,111,114]⟩⟩ 93),(.type "ImportError")⟩,⟨kh P ⟨⟨[76,111,111,107,117,112,69,114,114,111,114]⟩⟩,(.str ⟨⟨[76,111,111,107,117,112,69,114,114,111,114]⟩⟩ 94),(.type "LookupError")⟩,⟨kh P ⟨⟨[77,101,109,111,114,121,69,114,114,111,114]⟩⟩,(.str ⟨⟨[77,101,109,111,114,121,69,114,114,111,114]⟩⟩ 95),(.type "MemoryError")⟩,⟨kh P ⟨⟨[78,97,109,101,69,114,114,111,114]⟩⟩,(.str ⟨⟨[78,97,109,101,69,114,114,111,114]⟩⟩ 96),(.type "NameError")⟩,⟨kh P ⟨⟨[79,83,69,114,114,111,114]⟩⟩,(.str ⟨⟨[79,83,69,114,114,111,114]⟩⟩ 97),(.type "OSError")⟩,⟨kh P ⟨⟨[82,101,102,101,114,101,110,99,101,69,114,114,111,114]⟩⟩,(.str ⟨⟨[82,101,102,101,114,101,110,99,101,69,114,114,111,114]⟩⟩ 98),(.type "ReferenceError")⟩,⟨kh P ⟨⟨[82,117,110,116,105,109,101,69,114,114,111,114]⟩⟩,(.str ⟨⟨[82,117,110,116,105,109,101,69,114,114,111,114]⟩⟩ 99),(.type "RuntimeError")⟩,⟨kh P ⟨⟨[83,116,111,112,65,115,121,110,99,73,116,101,114,97,116,105,111,110]⟩⟩,(.str ⟨⟨[83,116,111,112,65,115,121,110,99,73,116,101,114,97,116,105,111,110]⟩⟩ 100),(.type "StopAsyncIteration")⟩,⟨kh P ⟨⟨[83,116,111,112,73,116,101,114,97,116,105,111,110]⟩⟩,(.str ⟨⟨[83,116,111,112,73,116,101,114,97,116,105,111,110]⟩⟩ 101),(.type "StopIteration")⟩,⟨kh P ⟨⟨[83,121,110,116,97,120,69,114,114,111,114]⟩⟩,(.str ⟨⟨[83,121,110,116,97,120,69,114,114,111,114]⟩⟩ 102),(.type "SyntaxError")⟩,⟨kh P ⟨⟨[83,121,115,116,101,109,69,114,114,111,114]⟩⟩,(.str ⟨⟨[83,121,115,116,101,109,69,114,114,111,114]⟩⟩ 103),(.type "SystemError")⟩,⟨kh P ⟨⟨[84,121,112,101,69,114,114,111,114]⟩⟩,(.str ⟨⟨[84,121,112,101,69,114,114,111,114]⟩⟩ 104),(.type "TypeError")⟩,⟨kh P ⟨⟨[86,97,108,117,101,69,114,114,111,114]⟩⟩,(.str ⟨⟨[86,97,108,117,101,69,114,114,111,114]⟩⟩ 105),(.type "ValueError")⟩,⟨kh P ⟨⟨[87,97,114,110,105,110,103]⟩⟩,(.str ⟨⟨[87,97,114,110,105,110,103]⟩⟩ 106),(.type "Warning")⟩,⟨kh P ⟨⟨[70,108,111,97,116,105,110,103,80,111,105,110,116,69,114,114,111,114]⟩⟩,(.str ⟨⟨[70,108,111,97,116,105,110,103,80,111,105,110,116,69,114,114,111,114]⟩⟩ 107),(.type "FloatingPointError")⟩,⟨kh P ⟨⟨[79,118,101,114,102,108,111,119,69,114,114,111,114]⟩⟩,(.str ⟨⟨[79,118,101,114,102,108,111,119,69,114,114,111,114]⟩⟩ 108),(.type "OverflowError")⟩,⟨kh P ⟨⟨[90,101,114,111,68,105,118,105,115,105,111,110,69,114,114,111,114]⟩⟩,(.str ⟨⟨[90,101,114,111,68,105,118,105,115,105,111,110,69,114,114,111,114]⟩⟩ 109),(.type "ZeroDivisionError")⟩,⟨kh P ⟨⟨[66,121,116,101,115,87,97,114,110,105,110,103]⟩⟩,(.str ⟨⟨[66,121,116,101,115,87,97,114,110,105,110,103]⟩⟩ 110),(.type "BytesWarning")⟩,⟨kh P ⟨⟨[68,101,112,114,101,99,97,116,105,111,110,87,97,114,110,105,110,103]⟩⟩,(.str ⟨⟨[68,101,112,114,101,99,97,116,105,111,110,87,97,114,110,105,110,103]⟩⟩ 111),(.type "DeprecationWarning")⟩,⟨kh P ⟨⟨[69,110,99,111,100,105,110,103,87,97,114,110,105,110,103]⟩⟩,(.str ⟨⟨[69,110,99,111,100,105,110,103,87,97,114,110,105,110,103]⟩⟩ 112),(.type "EncodingWarning")⟩,⟨kh P ⟨⟨[70,117,116,117,114,101,87,97,114,110,105,110,103]⟩⟩,(.str ⟨⟨[70,117,116,117,114,101,87,97,114,110,105,110,103]⟩⟩ 113),(.type "FutureWarning")⟩,⟨kh P ⟨⟨[73,109,112,111,114,116,87,97,114,110,105,110,103]⟩⟩,(.str ⟨⟨[73,109,112,111,114,116,87,97,114,110,105,110,103]⟩⟩ 114),(.type "ImportWarning")⟩,⟨kh P ⟨⟨[80,101,110,100,105,110,103,68,101,112,114,101,99,97,116,105,111,110,87,97,114,110,105,110,103]⟩⟩,(.str ⟨⟨[80,101,110,100,105,110,103,68,101,112,114,101,99,97,116,105,111,110,87,97,114,110,105,110,103]⟩⟩ 115),(.type "PendingDeprecationWarning")⟩,⟨kh P ⟨⟨[82,101,115,111,117,114,99,101,87,97,114,110,105,110,103]⟩⟩,(.str ⟨⟨[82,101,115,111,117,114,99,101,87,97,114,110,105,110,103]⟩⟩ 116),(.type "ResourceWarning")⟩,⟨kh P ⟨⟨[82,117,110,116,105,109,101,87,97,114,110,105,110,103]⟩⟩,(.str ⟨⟨[82,117,110,116,105,109,101,87,97,114,110,105,110,103]⟩⟩ 117),(.type "RuntimeWarning")⟩,⟨kh P ⟨⟨[83,121,110,116,97,120,87,97,114,110,105,110,103]⟩⟩,(.str ⟨⟨[83,121,110,116,97,120,87,97,114,110,105,110,103]⟩⟩ 118),(.type "SyntaxWarning")⟩,⟨kh P ⟨⟨[85,110,105,99,111,100,101,87,97,114,110,105,110,103]⟩⟩,(.str ⟨⟨[85,110,105,99,111,100,101,87,97,114,110,105,110,103]⟩⟩ 119),(.type "UnicodeWarning")⟩,⟨kh P ⟨⟨[85,115,101,114,87,97,114,110,105,110,103]⟩⟩,(.str ⟨⟨[85,115,101,114,87,97,114,110,105,110,103]⟩⟩ 120),(.type "UserWarning")⟩,⟨kh P ⟨⟨[66,108,111,99,107,105,110,103,73,79,69,114,114,111,114]⟩⟩,(.str ⟨⟨[66,108,111,99,107,105,110,103,73,79,69,114,114,111,114]⟩⟩ 121),(.type "BlockingIOError")⟩,⟨kh P ⟨⟨[67,104,105,108,100,80,114,111,99,101,115,115,69,114,114,111,114]⟩⟩,(.str ⟨⟨[67,104,105,108,100,80,114,111,99,101,115,115,69,114,114,111,114]⟩⟩ 122),(.type "ChildProcessError")⟩,⟨kh P ⟨⟨[67,111,110,110,101,99,116,105,111,110,69,114,114,111,114]⟩⟩,(.str ⟨⟨[67,111,110,110,101,99,116,105,111,110,69,114,114,111,114]⟩⟩ 123),(.type "ConnectionError")⟩,⟨kh P ⟨⟨[70,105,108,101,69,120,105,115,116,115,69,114,114,111,114]⟩⟩,(.str ⟨⟨[70,105,108,101,69,120,105,115,116,115,69,114,114,111,114]⟩⟩ 124),(.type "FileExistsError")⟩,⟨kh P ⟨⟨[70,105,108,101,78,111,116,70,111,117,110,100,69,114,114,111,114]⟩⟩,(.str ⟨⟨[70,105,108,101,78,111,116,70,111,117,110,100,69,114,114,111,114]⟩⟩ 125),(.type "FileNotFoundError")⟩,⟨kh P ⟨⟨[73,110,116,101,114,114,117,112,116,101,100,69,114,114,111,114]⟩⟩,(.str ⟨⟨[73,110,116,101,114,114,117,112,116,101,100,69,114,114,111,114]⟩⟩ 126),(.type "InterruptedError")⟩,⟨kh P ⟨⟨[73,115,65,68,105,114,101,99,116,111,114,121,69,114,114,111,114]⟩⟩,(.str ⟨⟨[73,115,65,68,105,114,101,99,116,111,114,121,69,114,114,111,114]⟩⟩ 127),(.type "IsADirectoryError")⟩,⟨kh P ⟨⟨[78,111,116,65,68,105,114,101,99,116,111,114,121,69,114,114,111,114]⟩⟩,(.str ⟨⟨[78,111,116,65,68,105,114,101,99,116,111,114,121,69,114,114,111,114]⟩⟩ 128),(.type "NotADirectoryError")⟩,⟨kh P ⟨⟨[80,101,114,109,105,115,115,105,111,110,69,114,114,111,114]⟩⟩,(.str ⟨⟨[80,101,114,109,105,115,115,105,111,110,69,114,114,111,114]⟩⟩ 129),(.type "PermissionError")⟩,⟨kh P ⟨⟨[80,114,111,99,101,115,115,76,111,111,107,117,112,69,114,114,111,114]⟩⟩,(.str ⟨⟨[80,114,111,99,101,115,115,76,111,111,107,117,112,69,114,114,111,114]⟩⟩ 130),(.type "ProcessLookupError")⟩,⟨kh P ⟨⟨[84,105,109,101,111,117,116,69,114,114,111,114]⟩⟩,(.str ⟨⟨[84,105,109,101,111,117,116,69,114,114,111,114]⟩⟩ 131),(.type "TimeoutError")⟩,⟨kh P ⟨⟨[73,110,100,101,110,116,97,116,105,111,110,69,114,114,111,114]⟩⟩,(.str ⟨⟨[73,110,100,101,110,116,97,116,105,111,110,69,114,114,111,114]⟩⟩ 132),(.type "IndentationError")⟩,⟨kh P ⟨⟨[95,73,110,99,111,109,112,108,101,116,101,73,110,112,117,116,69,114,114,111,114]⟩⟩,(.str ⟨⟨[95,73,110,99,111,109,112,108,101,116,101,73,110,112,117,116,69,114,114,111,114]⟩⟩ 133),(.type "_IncompleteInputError")⟩,⟨kh P ⟨⟨[73,110,100,101,120,69,114,114,111,114]⟩⟩,(.str ⟨⟨[73,110,100,101,120,69,114,114,111,114]⟩⟩ 134),(.type "IndexError")⟩,⟨kh P ⟨⟨[75,101,121,69,114,114,111,114]⟩⟩,(.str ⟨⟨[75,101,121,69,114,114,111,114]⟩⟩ 135),(.type "KeyError")⟩,⟨kh P ⟨⟨[77,111,100,117,108,101,78,111,116,70,111,117,110,100,69,114,114,111,114]⟩⟩,(.str ⟨⟨[77,111,100,117,108,101,78,111,116,70,111,117,110,100,69,114,114,111,114]⟩⟩ 136),(.type "ModuleNotFoundError")⟩,⟨kh P ⟨⟨[78,111,116,73,109,112,108,101,109,101,110,116,101,100,69,114,114,111,114]⟩⟩,(.str ⟨⟨[78,111,116,73,109,112,108,101,109,101,110,116,101,100,69,114,114,111,114]⟩⟩ 137),(.type "NotImplementedError")⟩,⟨kh P ⟨⟨[80,121,116,104,111,110,70,105,110,97,108,105,122,97,116,105,111,110,69,114,114,111,114]⟩⟩,(.str ⟨⟨[80,121,116,104,111,110,70,105,110,97,108,105,122,97,116,105,111,110,69,114,114,111,114]⟩⟩ 138),(.type "PythonFinalizationError")⟩,⟨kh P ⟨⟨[82,101,99,117,114,115,105,111,110,69,114,114,111,114]⟩⟩,(.str ⟨⟨[82,101,99,117,114,115,105,111,110,69,114,114,111,114]⟩⟩ 139),(.type "RecursionError")⟩,⟨kh P ⟨⟨[85,110,98,111,117,110,100,76,111,99,97,108,69,114,114,111,114]⟩⟩,(.str ⟨⟨[85,110,98,111,117,110,100,76,111,99,97,108,69,114,114,111,114]⟩⟩ 140),(.type "UnboundLocalError")⟩,⟨kh P ⟨⟨[85,110,105,99,111,100,101,69,114,114,111,114]⟩⟩,(.str ⟨⟨[85,110,105,99,111,100,101,69,114,114,111,114]⟩⟩ 141),(.type "UnicodeError")⟩,⟨kh P ⟨⟨[66,114,111,107,101,110,80,105,112,101,69,114,114,111,114]⟩⟩,(.str ⟨⟨[66,114,111,107,101,110,80,105,112,101,69,114,114,111,114]⟩⟩ 142),(.type "BrokenPipeError")⟩,⟨kh P ⟨⟨[67,111,110,110,101,99,116,105,111,110,65,98,111,114,116,101,100,69,114,114,111,114]⟩⟩,(.str ⟨⟨[67,111,110,110,101,99,116,105,111,110,65,98,111,114,116,101,100,69,114,114,111,114]⟩⟩ 143),(.type "ConnectionAbortedError")⟩,⟨kh P ⟨⟨[67,111,110,110,101,99,116,105,111,110,82,101,102,117,115,101,100,69,114,114,111,114]⟩⟩,(.str ⟨⟨[67,111,110,110,101,99,116,105,111,110,82,101,102,117,115,101,100,69,114,114,111,114]⟩⟩ 144),(.type "ConnectionRefusedError")⟩,⟨kh P ⟨⟨[67,111,110,110,101,99,116,105,111,110,82,101,115,101,116,69,114,114,111,114]⟩⟩,(.str ⟨⟨[67,111,110,110,101,99,116,105,111,110,82,101,115,101,116,69,114,114,111,114]⟩⟩ 145),(.type "ConnectionResetError")⟩,⟨kh P ⟨⟨[84,97,98,69,114,114,111,114]⟩⟩,(.str ⟨⟨[84,97,98,69,114,114,111,114]⟩⟩ 146),(.type "TabError")⟩,⟨kh P ⟨⟨[85,110,105,99,111,100,101,68,101,99,111,100,101,69,114,114,111,114]⟩⟩,(.str ⟨⟨[85,110,105,99,111,100,101,68,101,99,111,100,101,69,114,114,111,114]⟩⟩ 147),(.type "UnicodeDecodeError")⟩,⟨kh P ⟨⟨[85,110,105,99,111,100,101,69,110,99,111,100,101,69,114,114,111,114]⟩⟩,(.str ⟨⟨[85,110,105,99,111,100,101,69,110,99,111,100,101,69,114,114,111,114]⟩⟩ 148),(.type "UnicodeEncodeError")⟩,⟨kh P ⟨⟨[85,110,105,99,111,100,101,84,114,97,110,115,108,97,116,101,69,114,114,111,114]⟩⟩,(.str ⟨⟨[85,110,105,99,111,100,101,84,114,97,110,115,108,97,116,101,69,114,114,111,114]⟩⟩ 149),(.type "UnicodeTranslateError")⟩,⟨kh P ⟨⟨[69,120,99,101,112,116,105,111,110,71,114,111,117,112]⟩⟩,(.str ⟨⟨[69,120,99,101,112,116,105,111,110,71,114,111,117,112]⟩⟩ 150),(.type "ExceptionGroup")⟩,⟨kh P ⟨⟨[69,110,118,105,114,111,110,109,101,110,116,69,114,114,111,114]⟩⟩,(.str ⟨⟨[69,110,118,105,114,111,110,109,101,110,116,69,114,114,111,114]⟩⟩ 151),(.type "OSError")⟩,⟨kh P ⟨⟨[73,79,69,114,114,111,114]⟩⟩,(.str ⟨⟨[73,79,69,114,114,111,114]⟩⟩ 152),(.type "OSError")⟩,⟨kh P ⟨⟨[111,112,101,110]⟩⟩,(.str ⟨⟨[111,112,101,110]⟩⟩ 153),(.builtin "open")⟩,⟨kh P ⟨⟨[113,117,105,116]⟩⟩,(.str ⟨⟨[113,117,105,116]⟩⟩ 154),(.builtin "builtins.quit#opaque")⟩,⟨kh P ⟨⟨[101,120,105,116]⟩⟩,(.str ⟨⟨[101,120,105,116]⟩⟩ 155),(.builtin "builtins.exit#opaque")⟩,⟨kh P ⟨⟨[99,111,112,121,114,105,103,104,116]⟩⟩,(.str ⟨⟨[99,111,112,121,114,105,103,104,116]⟩⟩ 156),(.builtin "builtins.copyright#opaque")⟩,⟨kh P ⟨⟨[99,114,101,100,105,116,115]⟩⟩,(.str ⟨⟨[99,114,101,100,105,116,115]⟩⟩ 157),(.builtin "builtins.credits#opaque")⟩,⟨kh P ⟨⟨[108,105,99,101,110,115,101]⟩⟩,(.str ⟨⟨[108,105,99,101,110,115,101]⟩⟩ 158),(.builtin "builtins.license#opaque")⟩,⟨kh P ⟨⟨[104,101,108,112]⟩⟩,(.str ⟨⟨[104,101,108,112]⟩⟩ 159),(.builtin "builtins.help#opaque")⟩]⟩ 159),⟨[]⟩⟩
noncomputable def ob1 (P : Params) : Obj := ⟨(.type "dict"),none,(.dict ⟨[⟨kh P ⟨⟨[98,117,105,108,116,105,110,115]⟩⟩,(.str ⟨⟨[98,117,105,108,116,105,110,115]⟩⟩ 162),(.ref 4)⟩,⟨kh P ⟨⟨[95,95,109,97,105,110,95,95]⟩⟩,(.str ⟨⟨[95,95,109,97,105,110,95,95]⟩⟩ 163),(.ref 5)⟩,⟨kh P ⟨⟨[95,115,114,101]⟩⟩,(.str ⟨⟨[95,115,114,101]⟩⟩ 244),(.ref 12)⟩]⟩ 3),⟨[]⟩⟩
noncomputable def ob2 (P : Params) : Obj := ⟨.none,none,(.dict ⟨[⟨kh P ⟨⟨[105,109,112,111,114,116,46,108,111,97,100,101,100,46,95,115,114,101]⟩⟩,(.str ⟨⟨[105,109,112,111,114,116,46,108,111,97,100,101,100,46,95,115,114,101]⟩⟩ 183),(.bool true)⟩,⟨kh P ⟨⟨[99,108,97,115,115,46,95,102,114,111,122,101,110,95,105,109,112,111,114,116,108,105,98,46,66,117,105,108,116,105,110,73,109,112,111,114,116,101,114]⟩⟩,(.str ⟨⟨[99,108,97,115,115,46,95,102,114,111,122,101,110,95,105,109,112,111,114,116,108,105,98,46,66,117,105,108,116,105,110,73,109,112,111,114,116,101,114]⟩⟩ 185),(.ref 14)⟩,⟨kh P ⟨⟨[119,97,116,99,104,101,100,46,105,109,112,111,114,116]⟩⟩,(.str ⟨⟨[119,97,116,99,104,101,100,46,105,109,112,111,114,116]⟩⟩ 206),(.ref 18)⟩,⟨kh P ⟨⟨[99,108,97,115,115,46,95,102,114,111,122,101,110,95,105,109,112,111,114,116,108,105,98,46,77,111,100,117,108,101,83,112,101,99]⟩⟩,(.str ⟨⟨[99,108,97,115,115,46,95,102,114,111,122,101,110,95,105,109,112,111,114,116,108,105,98,46,77,111,100,117,108,101,83,112,101,99]⟩⟩ 216),(.ref 22)⟩,⟨kh P ⟨⟨[115,121,115,46,109,111,100,117,108,101,115,46,98,111,111,107,101,100,45,101,112,111,99,104]⟩⟩,(.str ⟨⟨[115,121,115,46,109,111,100,117,108,101,115,46,98,111,111,107,101,100,45,101,112,111,99,104]⟩⟩ 245),(.int (.ofNat 3) 0)⟩,⟨kh P ⟨⟨[105,109,112,111,114,116,46,108,97,116,101,114,45,108,97,105,100,46,95,115,114,101]⟩⟩,(.str ⟨⟨[105,109,112,111,114,116,46,108,97,116,101,114,45,108,97,105,100,46,95,115,114,101]⟩⟩ 270),(.bool true)⟩,⟨kh P ⟨⟨[119,97,116,99,104,101,100,46,108,105,98,114,97,114,121]⟩⟩,(.str ⟨⟨[119,97,116,99,104,101,100,46,108,105,98,114,97,114,121]⟩⟩ 272),(.ref 27)⟩,⟨kh P ⟨⟨[119,97,116,99,104,101,100,46,108,105,98,114,97,114,121,45,111,98,106,101,99,116,115]⟩⟩,(.str ⟨⟨[119,97,116,99,104,101,100,46,108,105,98,114,97,114,121,45,111,98,106,101,99,116,115]⟩⟩ 0),(.str ⟨⟨[12]⟩⟩ 0)⟩,⟨kh P ⟨⟨[119,97,116,99,104,101,100,46,108,105,98,114,97,114,121,45,100,101,101,112,46,95,115,114,101]⟩⟩,(.str ⟨⟨[119,97,116,99,104,101,100,46,108,105,98,114,97,114,121,45,100,101,101,112,46,95,115,114,101]⟩⟩ 273),(.str ⟨⟨[4,0,0,11,4,0,0,11,4,0,0,3,4,0,0,11,8,4,100,105,99,116,2]⟩⟩ 0)⟩]⟩ 9),⟨[]⟩⟩
noncomputable def ob3 (P : Params) : Obj := ⟨(.type "dict"),none,(.dict ⟨[⟨kh P ⟨⟨[95,95,110,97,109,101,95,95]⟩⟩,(.str ⟨⟨[95,95,110,97,109,101,95,95]⟩⟩ 165),(.str ⟨⟨[95,95,109,97,105,110,95,95]⟩⟩ 164)⟩,⟨kh P ⟨⟨[95,95,100,111,99,95,95]⟩⟩,(.str ⟨⟨[95,95,100,111,99,95,95]⟩⟩ 166),.none⟩,⟨kh P ⟨⟨[95,95,112,97,99,107,97,103,101,95,95]⟩⟩,(.str ⟨⟨[95,95,112,97,99,107,97,103,101,95,95]⟩⟩ 167),.none⟩,⟨kh P ⟨⟨[95,95,108,111,97,100,101,114,95,95]⟩⟩,(.str ⟨⟨[95,95,108,111,97,100,101,114,95,95]⟩⟩ 168),(.builtin "__main__.__loader__#opaque")⟩,⟨kh P ⟨⟨[95,95,115,112,101,99,95,95]⟩⟩,(.str ⟨⟨[95,95,115,112,101,99,95,95]⟩⟩ 169),.none⟩,⟨kh P ⟨⟨[95,95,97,110,110,111,116,97,116,105,111,110,115,95,95]⟩⟩,(.str ⟨⟨[95,95,97,110,110,111,116,97,116,105,111,110,115,95,95]⟩⟩ 170),(.ref 6)⟩,⟨kh P ⟨⟨[95,95,98,117,105,108,116,105,110,115,95,95]⟩⟩,(.str ⟨⟨[95,95,98,117,105,108,116,105,110,115,95,95]⟩⟩ 171),(.ref 4)⟩,⟨kh P ⟨⟨[95,95,102,105,108,101,95,95]⟩⟩,(.str ⟨⟨[95,95,102,105,108,101,95,95]⟩⟩ 173),(.str ⟨⟨[47,99,108,97,105,109,47,99,117,116,46,112,121]⟩⟩ 172)⟩,⟨kh P ⟨⟨[95,95,99,97,99,104,101,100,95,95]⟩⟩,(.str ⟨⟨[95,95,99,97,99,104,101,100,95,95]⟩⟩ 174),.none⟩,⟨kh P ⟨⟨[95,115,114,101]⟩⟩,(.str ⟨⟨[95,115,114,101]⟩⟩ 275),(.ref 12)⟩]⟩ 10),⟨[]⟩⟩
noncomputable def ob4 (P : Params) : Obj := ⟨(.type "module"),(some 0),.plain,⟨[]⟩⟩
noncomputable def ob5 (P : Params) : Obj := ⟨(.type "module"),(some 3),.plain,⟨[]⟩⟩
noncomputable def ob6 (P : Params) : Obj := ⟨(.type "dict"),none,(.dict ⟨[]⟩ 0),⟨[]⟩⟩
noncomputable def ob7 (P : Params) : Obj := ⟨(.type "tuple"),none,(.seq ⟨[]⟩ 0),⟨[]⟩⟩
noncomputable def ob8 (P : Params) : Obj := ⟨.none,none,(.fields ⟨[]⟩),⟨[]⟩⟩
noncomputable def ob9 (P : Params) : Obj := ⟨(.type "code"),none,(.fields ⟨[(.str ⟨⟨[60,109,111,100,117,108,101,62]⟩⟩ 176),(.str ⟨⟨[60,109,111,100,117,108,101,62]⟩⟩ 177),(.str ⟨⟨[47,99,108,97,105,109,47,99,117,116,46,112,121]⟩⟩ 178),(.int (.ofNat 1) 0),(.int (.ofNat 0) 0),(.int (.ofNat 0) 0),(.int (.ofNat 0) 0),(.int (.ofNat 0) 0),(.ref 7),(.bool false),(.int (.ofNat 175) 0),(.ref 8),.none,.none,.none,.none,(.int (.ofNat 179) 0),(.int (.ofNat 1) 0),(.str ⟨⟨[47,99,108,97,105,109,47,99,117,116,46,112,121]⟩⟩ 180)]⟩),⟨[]⟩⟩
noncomputable def ob10 (P : Params) : Obj := ⟨(.type "frame"),none,.plain,⟨[(some (.ref 9)),(some (.ref 3)),(some (.ref 3)),none,(some (.str ⟨⟨[95,95,109,97,105,110,95,95]⟩⟩ 164)),none,(some (.ref 0))]⟩⟩
noncomputable def ob11 (P : Params) : Obj := ⟨(.type "dict"),none,(.dict ⟨[⟨kh P ⟨⟨[95,95,110,97,109,101,95,95]⟩⟩,(.str ⟨⟨[95,95,110,97,109,101,95,95]⟩⟩ 247),(.str ⟨⟨[95,115,114,101]⟩⟩ 246)⟩,⟨kh P ⟨⟨[95,95,100,111,99,95,95]⟩⟩,(.str ⟨⟨[95,95,100,111,99,95,95]⟩⟩ 248),.none⟩,⟨kh P ⟨⟨[95,95,112,97,99,107,97,103,101,95,95]⟩⟩,(.str ⟨⟨[95,95,112,97,99,107,97,103,101,95,95]⟩⟩ 250),(.str ⟨⟨[]⟩⟩ 249)⟩,⟨kh P ⟨⟨[95,95,108,111,97,100,101,114,95,95]⟩⟩,(.str ⟨⟨[95,95,108,111,97,100,101,114,95,95]⟩⟩ 251),(.builtin "off-the-table:_sre.__loader__:shared#opaque")⟩,⟨kh P ⟨⟨[95,95,115,112,101,99,95,95]⟩⟩,(.str ⟨⟨[95,95,115,112,101,99,95,95]⟩⟩ 252),(.builtin "off-the-table:_sre.__spec__:shared#opaque")⟩,⟨kh P ⟨⟨[99,111,109,112,105,108,101]⟩⟩,(.str ⟨⟨[99,111,109,112,105,108,101]⟩⟩ 253),(.builtin "_sre.compile")⟩,⟨kh P ⟨⟨[116,101,109,112,108,97,116,101]⟩⟩,(.str ⟨⟨[116,101,109,112,108,97,116,101]⟩⟩ 254),(.builtin "off-the-table:_sre.template:shared#opaque")⟩,⟨kh P ⟨⟨[103,101,116,99,111,100,101,115,105,122,101]⟩⟩,(.str ⟨⟨[103,101,116,99,111,100,101,115,105,122,101]⟩⟩ 255),(.builtin "off-the-table:_sre.getcodesize:shared#opaque")⟩,⟨kh P ⟨⟨[97,115,99,105,105,95,105,115,99,97,115,101,100]⟩⟩,(.str ⟨⟨[97,115,99,105,105,95,105,115,99,97,115,101,100]⟩⟩ 256),(.builtin "off-the-table:_sre.ascii_iscased:shared#opaque")⟩,⟨kh P ⟨⟨[117,110,105,99,111,100,101,95,105,115,99,97,115,101,100]⟩⟩,(.str ⟨⟨[117,110,105,99,111,100,101,95,105,115,99,97,115,101,100]⟩⟩ 257),(.builtin "off-the-table:_sre.unicode_iscased:shared#opaque")⟩,⟨kh P ⟨⟨[97,115,99,105,105,95,116,111,108,111,119,101,114]⟩⟩,(.str ⟨⟨[97,115,99,105,105,95,116,111,108,111,119,101,114]⟩⟩ 258),(.builtin "off-the-table:_sre.ascii_tolower:shared#opaque")⟩,⟨kh P ⟨⟨[117,110,105,99,111,100,101,95,116,111,108,111,119,101,114]⟩⟩,(.str ⟨⟨[117,110,105,99,111,100,101,95,116,111,108,111,119,101,114]⟩⟩ 259),(.builtin "off-the-table:_sre.unicode_tolower:shared#opaque")⟩,⟨kh P ⟨⟨[77,65,71,73,67]⟩⟩,(.str ⟨⟨[77,65,71,73,67]⟩⟩ 261),(.int (.ofNat 20230612) 260)⟩,⟨kh P ⟨⟨[67,79,68,69,83,73,90,69]⟩⟩,(.str ⟨⟨[67,79,68,69,83,73,90,69]⟩⟩ 263),(.int (.ofNat 4) 262)⟩,⟨kh P ⟨⟨[77,65,88,82,69,80,69,65,84]⟩⟩,(.str ⟨⟨[77,65,88,82,69,80,69,65,84]⟩⟩ 265),(.int (.ofNat 4294967295) 264)⟩,⟨kh P ⟨⟨[77,65,88,71,82,79,85,80,83]⟩⟩,(.str ⟨⟨[77,65,88,71,82,79,85,80,83]⟩⟩ 267),(.int (.ofNat 1073741823) 266)⟩,⟨kh P ⟨⟨[99,111,112,121,114,105,103,104,116]⟩⟩,(.str ⟨⟨[99,111,112,121,114,105,103,104,116]⟩⟩ 269),(.str ⟨⟨[32,83,82,69,32,50,46,50,46,50,32,67,111,112,121,114,105,103,104,116,32,40,99,41,32,49,57,57,55,45,50,48,48,50,32,98,121,32,83,101,99,114,101,116,32,76,97,98,115,32,65,66,32]⟩⟩ 268)⟩]⟩ 17),⟨[]⟩⟩
noncomputable def ob12 (P : Params) : Obj := ⟨(.type "module"),(some 11),.plain,⟨[]⟩⟩
noncomputable def ob13 (P : Params) : Obj := ⟨(.type "dict"),none,(.dict ⟨[⟨kh P ⟨⟨[95,95,109,111,100,117,108,101,95,95]⟩⟩,(.str ⟨⟨[95,95,109,111,100,117,108,101,95,95]⟩⟩ 189),(.str ⟨⟨[95,102,114,111,122,101,110,95,105,109,112,111,114,116,108,105,98]⟩⟩ 186)⟩,⟨kh P ⟨⟨[95,95,102,105,114,115,116,108,105,110,101,110,111,95,95]⟩⟩,(.str ⟨⟨[95,95,102,105,114,115,116,108,105,110,101,110,111,95,95]⟩⟩ 190),(.int (.ofNat 971) 187)⟩,⟨kh P ⟨⟨[95,95,100,111,99,95,95]⟩⟩,(.str ⟨⟨[95,95,100,111,99,95,95]⟩⟩ 191),(.builtin "_frozen_importlib.BuiltinImporter.__doc__:str#opaque")⟩,⟨kh P ⟨⟨[95,79,82,73,71,73,78]⟩⟩,(.str ⟨⟨[95,79,82,73,71,73,78]⟩⟩ 192),(.str ⟨⟨[98,117,105,108,116,45,105,110]⟩⟩ 188)⟩,⟨kh P ⟨⟨[102,105,110,100,95,115,112,101,99]⟩⟩,(.str ⟨⟨[102,105,110,100,95,115,112,101,99]⟩⟩ 193),(.builtin "_frozen_importlib.BuiltinImporter.find_spec#opaque")⟩,⟨kh P ⟨⟨[99,114,101,97,116,101,95,109,111,100,117,108,101]⟩⟩,(.str ⟨⟨[99,114,101,97,116,101,95,109,111,100,117,108,101]⟩⟩ 194),(.builtin "_frozen_importlib.BuiltinImporter.create_module#opaque")⟩,⟨kh P ⟨⟨[101,120,101,99,95,109,111,100,117,108,101]⟩⟩,(.str ⟨⟨[101,120,101,99,95,109,111,100,117,108,101]⟩⟩ 195),(.builtin "_frozen_importlib.BuiltinImporter.exec_module#opaque")⟩,⟨kh P ⟨⟨[103,101,116,95,99,111,100,101]⟩⟩,(.str ⟨⟨[103,101,116,95,99,111,100,101]⟩⟩ 196),(.builtin "_frozen_importlib.BuiltinImporter.get_code#opaque")⟩,⟨kh P ⟨⟨[103,101,116,95,115,111,117,114,99,101]⟩⟩,(.str ⟨⟨[103,101,116,95,115,111,117,114,99,101]⟩⟩ 197),(.builtin "_frozen_importlib.BuiltinImporter.get_source#opaque")⟩,⟨kh P ⟨⟨[105,115,95,112,97,99,107,97,103,101]⟩⟩,(.str ⟨⟨[105,115,95,112,97,99,107,97,103,101]⟩⟩ 198),(.builtin "_frozen_importlib.BuiltinImporter.is_package#opaque")⟩,⟨kh P ⟨⟨[108,111,97,100,95,109,111,100,117,108,101]⟩⟩,(.str ⟨⟨[108,111,97,100,95,109,111,100,117,108,101]⟩⟩ 199),(.builtin "_frozen_importlib.BuiltinImporter.load_module#opaque")⟩,⟨kh P ⟨⟨[95,95,115,116,97,116,105,99,95,97,116,116,114,105,98,117,116,101,115,95,95]⟩⟩,(.str ⟨⟨[95,95,115,116,97,116,105,99,95,97,116,116,114,105,98,117,116,101,115,95,95]⟩⟩ 200),(.ref 15)⟩,⟨kh P ⟨⟨[95,95,100,105,99,116,95,95]⟩⟩,(.str ⟨⟨[95,95,100,105,99,116,95,95]⟩⟩ 202),(.ref 16)⟩,⟨kh P ⟨⟨[95,95,119,101,97,107,114,101,102,95,95]⟩⟩,(.str ⟨⟨[95,95,119,101,97,107,114,101,102,95,95]⟩⟩ 204),(.ref 17)⟩]⟩ 14),⟨[]⟩⟩
noncomputable def ob14 (P : Params) : Obj := ⟨(.type "type"),none,(.cls ⟨⟨⟨[66,117,105,108,116,105,110,73,109,112,111,114,116,101,114]⟩⟩,[(.type "object")],[(.ref 14),(.type "object")],13,⟨⟨[66,117,105,108,116,105,110,73,109,112,111,114,116,101,114]⟩⟩,true,[],[],false,none,false⟩),⟨[]⟩⟩
noncomputable def ob15 (P : Params) : Obj := ⟨(.type "tuple"),none,(.seq ⟨[]⟩ 0),⟨[]⟩⟩
noncomputable def ob16 (P : Params) : Obj := ⟨(.type "getset_descriptor"),none,(.fields ⟨[(.str ⟨⟨[95,95,100,105,99,116,95,95]⟩⟩ 201),(.ref 14),(.builtin "function.__dict__"),(.builtin "function.__dict__#set")]⟩),⟨[]⟩⟩
noncomputable def ob17 (P : Params) : Obj := ⟨(.type "getset_descriptor"),none,(.fields ⟨[(.str ⟨⟨[95,95,119,101,97,107,114,101,102,95,95]⟩⟩ 203),(.ref 14),(.builtin "ExceptionGroup.__weakref__"),.none]⟩),⟨[]⟩⟩
noncomputable def ob18 (P : Params) : Obj := ⟨.none,none,(.seq ⟨[(.int (.ofNat 13) 0),(.str ⟨⟨[6,189,10,95,95,109,111,100,117,108,101,95,95,6,186,17,95,102,114,111,122,101,110,95,105,109,112,111,114,116,108,105,98,6,190,15,95,95,102,105,114,115,116,108,105,110,101,110,111,95,95,4,187,0,971,6,191,7,95,95,100,111,99,95,95,9,52,95,102,114,111,122,101,110,95,105,109,112,111,114,116,108,105,98,46,66,117,105,108,116,105,110,73,109,112,111,114,116,101,114,46,95,95,100,111,99,95,95,58,115,116,114,35,111,112,97,113,117,101,6,192,7,95,79,82,73,71,73,78,6,188,8,98,117,105,108,116,45,105,110,6,193,9,102,105,110,100,95,115,112,101,99,9,50,95,102,114,111,122,101,110,95,105,109,112,111,114,116,108,105,98,46,66,117,105,108,116,105,110,73,109,112,111,114,116,101,114,46,102,105,110,100,95,115,112,101,99,35,111,112,97,113,117,101,6,194,13,99,114,101,97,116,101,95,109,111,100,117,108,101,9,54,95,102,114,111,122,101,110,95,105,109,112,111,114,116,108,105,98,46,66,117,105,108,116,105,110,73,109,112,111,114,116,101,114,46,99,114,101,97,116,101,95,109,111,100,117,108,101,35,111,112,97,113,117,101,6,195,11,101,120,101,99,95,109,111,100,117,108,101,9,52,95,102,114,111,122,101,110,95,105,109,112,111,114,116,108,105,98,46,66,117,105,108,116,105,110,73,109,112,111,114,116,101,114,46,101,120,101,99,95,109,111,100,117,108,101,35,111,112,97,113,117,101,6,196,8,103,101,116,95,99,111,100,101,9,49,95,102,114,111,122,101,110,95,105,109,112,111,114,116,108,105,98,46,66,117,105,108,116,105,110,73,109,112,111,114,116,101,114,46,103,101,116,95,99,111,100,101,35,111,112,97,113,117,101,6,197,10,103,101,116,95,115,111,117,114,99,101,9,51,95,102,114,111,122,101,110,95,105,109,112,111,114,116,108,105,98,46,66,117,105,108,116,105,110,73,109,112,111,114,116,101,114,46,103,101,116,95,115,111,117,114,99,101,35,111,112,97,113,117,101,6,198,10,105,115,95,112,97,99,107,97,103,101,9,51,95,102,114,111,122,101,110,95,105,109,112,111,114,116,108,105,98,46,66,117,105,108,116,105,110,73,109,112,111,114,116,101,114,46,105,115,95,112,97,99,107,97,103,101,35,111,112,97,113,117,101,6,199,11,108,111,97,100,95,109,111,100,117,108,101,9,52,95,102,114,111,122,101,110,95,105,109,112,111,114,116,108,105,98,46,66,117,105,108,116,105,110,73,109,112,111,114,116,101,114,46,108,111,97,100,95,109,111,100,117,108,101,35,111,112,97,113,117,101,6,200,21,95,95,115,116,97,116,105,99,95,97,116,116,114,105,98,117,116,101,115,95,95,4,0,0,15,6,202,8,95,95,100,105,99,116,95,95,4,0,0,16,6,204,11,95,95,119,101,97,107,114,101,102,95,95,4,0,0,17]⟩⟩ 0),(.bool true),(.bool true),(.str ⟨⟨[]⟩⟩ 205),(.int (.ofNat 21) 0),(.str ⟨⟨[6,227,10,95,95,109,111,100,117,108,101,95,95,6,217,17,95,102,114,111,122,101,110,95,105,109,112,111,114,116,108,105,98,6,228,15,95,95,102,105,114,115,116,108,105,110,101,110,111,95,95,4,218,0,562,6,229,7,95,95,100,111,99,95,95,9,47,95,102,114,111,122,101,110,95,105,109,112,111,114,116,108,105,98,46,77,111,100,117,108,101,83,112,101,99,46,95,95,100,111,99,95,95,58,115,116,114,35,111,112,97,113,117,101,6,230,8,95,95,105,110,105,116,95,95,9,44,95,102,114,111,122,101,110,95,105,109,112,111,114,116,108,105,98,46,77,111,100,117,108,101,83,112,101,99,46,95,95,105,110,105,116,95,95,35,111,112,97,113,117,101,6,231,8,95,95,114,101,112,114,95,95,9,44,95,102,114,111,122,101,110,95,105,109,112,111,114,116,108,105,98,46,77,111,100,117,108,101,83,112,101,99,46,95,95,114,101,112,114,95,95,35,111,112,97,113,117,101,6,232,6,95,95,101,113,95,95,9,42,95,102,114,111,122,101,110,95,105,109,112,111,114,116,108,105,98,46,77,111,100,117,108,101,83,112,101,99,46,95,95,101,113,95,95,35,111,112,97,113,117,101,6,233,6,99,97,99,104,101,100,9,42,95,102,114,111,122,101,110,95,105,109,112,111,114,116,108,105,98,46,77,111,100,117,108,101,83,112,101,99,46,99,97,99,104,101,100,35,111,112,97,113,117,101,6,234,6,112,97,114,101,110,116,9,42,95,102,114,111,122,101,110,95,105,109,112,111,114,116,108,105,98,46,77,111,100,117,108,101,83,112,101,99,46,112,97,114,101,110,116,35,111,112,97,113,117,101,6,235,12,104,97,115,95,108,111,99,97,116,105,111,110,9,48,95,102,114,111,122,101,110,95,105,109,112,111,114,116,108,105,98,46,77,111,100,117,108,101,83,112,101,99,46,104,97,115,95,108,111,99,97,116,105,111,110,35,111,112,97,113,117,101,6,236,21,95,95,115,116,97,116,105,99,95,97,116,116,114,105,98,117,116,101,115,95,95,4,0,0,23,6,238,8,95,95,100,105,99,116,95,95,4,0,0,24,6,240,11,95,95,119,101,97,107,114,101,102,95,95,4,0,0,25,6,241,8,95,95,104,97,115,104,95,95,0]⟩⟩ 0),(.bool true),(.bool true),(.str ⟨⟨[]⟩⟩ 242)]⟩ 1),⟨[]⟩⟩
noncomputable def ob19 (P : Params) : Obj := ⟨(.type "list"),none,(.seq ⟨[]⟩ 0),⟨[]⟩⟩
noncomputable def ob20 (P : Params) : Obj := ⟨(.type "dict"),none,(.dict ⟨[⟨kh P ⟨⟨[110,97,109,101]⟩⟩,(.str ⟨⟨[110,97,109,101]⟩⟩ 208),(.str ⟨⟨[95,115,114,101]⟩⟩ 207)⟩,⟨kh P ⟨⟨[108,111,97,100,101,114]⟩⟩,(.str ⟨⟨[108,111,97,100,101,114]⟩⟩ 209),(.ref 14)⟩,⟨kh P ⟨⟨[111,114,105,103,105,110]⟩⟩,(.str ⟨⟨[111,114,105,103,105,110]⟩⟩ 210),(.str ⟨⟨[98,117,105,108,116,45,105,110]⟩⟩ 184)⟩,⟨kh P ⟨⟨[108,111,97,100,101,114,95,115,116,97,116,101]⟩⟩,(.str ⟨⟨[108,111,97,100,101,114,95,115,116,97,116,101]⟩⟩ 211),.none⟩,⟨kh P ⟨⟨[115,117,98,109,111,100,117,108,101,95,115,101,97,114,99,104,95,108,111,99,97,116,105,111,110,115]⟩⟩,(.str ⟨⟨[115,117,98,109,111,100,117,108,101,95,115,101,97,114,99,104,95,108,111,99,97,116,105,111,110,115]⟩⟩ 212),.none⟩,⟨kh P ⟨⟨[95,117,110,105,110,105,116,105,97,108,105,122,101,100,95,115,117,98,109,111,100,117,108,101,115]⟩⟩,(.str ⟨⟨[95,117,110,105,110,105,116,105,97,108,105,122,101,100,95,115,117,98,109,111,100,117,108,101,115]⟩⟩ 213),(.ref 19)⟩,⟨kh P ⟨⟨[95,115,101,116,95,102,105,108,101,97,116,116,114]⟩⟩,(.str ⟨⟨[95,115,101,116,95,102,105,108,101,97,116,116,114]⟩⟩ 214),(.bool false)⟩,⟨kh P ⟨⟨[95,99,97,99,104,101,100]⟩⟩,(.str ⟨⟨[95,99,97,99,104,101,100]⟩⟩ 215),.none⟩,⟨kh P ⟨⟨[95,105,110,105,116,105,97,108,105,122,105,110,103]⟩⟩,(.str ⟨⟨[95,105,110,105,116,105,97,108,105,122,105,110,103]⟩⟩ 243),(.bool false)⟩]⟩ 9),⟨[]⟩⟩
noncomputable def ob21 (P : Params) : Obj := ⟨(.type "dict"),none,(.dict ⟨[⟨kh P ⟨⟨[95,95,109,111,100,117,108,101,95,95]⟩⟩,(.str ⟨⟨[95,95,109,111,100,117,108,101,95,95]⟩⟩ 227),(.str ⟨⟨[95,102,114,111,122,101,110,95,105,109,112,111,114,116,108,105,98]⟩⟩ 217)⟩,⟨kh P ⟨⟨[95,95,102,105,114,115,116,108,105,110,101,110,111,95,95]⟩⟩,(.str ⟨⟨[95,95,102,105,114,115,116,108,105,110,101,110,111,95,95]⟩⟩ 228),(.int (.ofNat 562) 218)⟩,⟨kh P ⟨⟨[95,95,100,111,99,95,95]⟩⟩,(.str ⟨⟨[95,95,100,111,99,95,95]⟩⟩ 229),(.builtin "_frozen_importlib.ModuleSpec.__doc__:str#opaque")⟩,⟨kh P ⟨⟨[95,95,105,110,105,116,95,95]⟩⟩,(.str ⟨⟨[95,95,105,110,105,116,95,95]⟩⟩ 230),(.builtin "_frozen_importlib.ModuleSpec.__init__#opaque")⟩,⟨kh P ⟨⟨[95,95,114,101,112,114,95,95]⟩⟩,(.str ⟨⟨[95,95,114,101,112,114,95,95]⟩⟩ 231),(.builtin "_frozen_importlib.ModuleSpec.__repr__#opaque")⟩,⟨kh P ⟨⟨[95,95,101,113,95,95]⟩⟩,(.str ⟨⟨[95,95,101,113,95,95]⟩⟩ 232),(.builtin "_frozen_importlib.ModuleSpec.__eq__#opaque")⟩,⟨kh P ⟨⟨[99,97,99,104,101,100]⟩⟩,(.str ⟨⟨[99,97,99,104,101,100]⟩⟩ 233),(.builtin "_frozen_importlib.ModuleSpec.cached#opaque")⟩,⟨kh P ⟨⟨[112,97,114,101,110,116]⟩⟩,(.str ⟨⟨[112,97,114,101,110,116]⟩⟩ 234),(.builtin "_frozen_importlib.ModuleSpec.parent#opaque")⟩,⟨kh P ⟨⟨[104,97,115,95,108,111,99,97,116,105,111,110]⟩⟩,(.str ⟨⟨[104,97,115,95,108,111,99,97,116,105,111,110]⟩⟩ 235),(.builtin "_frozen_importlib.ModuleSpec.has_location#opaque")⟩,⟨kh P ⟨⟨[95,95,115,116,97,116,105,99,95,97,116,116,114,105,98,117,116,101,115,95,95]⟩⟩,(.str ⟨⟨[95,95,115,116,97,116,105,99,95,97,116,116,114,105,98,117,116,101,115,95,95]⟩⟩ 236),(.ref 23)⟩,⟨kh P ⟨⟨[95,95,100,105,99,116,95,95]⟩⟩,(.str ⟨⟨[95,95,100,105,99,116,95,95]⟩⟩ 238),(.ref 24)⟩,⟨kh P ⟨⟨[95,95,119,101,97,107,114,101,102,95,95]⟩⟩,(.str ⟨⟨[95,95,119,101,97,107,114,101,102,95,95]⟩⟩ 240),(.ref 25)⟩,⟨kh P ⟨⟨[95,95,104,97,115,104,95,95]⟩⟩,(.str ⟨⟨[95,95,104,97,115,104,95,95]⟩⟩ 241),.none⟩]⟩ 13),⟨[]⟩⟩
noncomputable def ob22 (P : Params) : Obj := ⟨(.type "type"),none,(.cls ⟨⟨⟨[77,111,100,117,108,101,83,112,101,99]⟩⟩,[(.type "object")],[(.ref 22),(.type "object")],21,⟨⟨[77,111,100,117,108,101,83,112,101,99]⟩⟩,true,[],[],false,none,false⟩),⟨[]⟩⟩
noncomputable def ob23 (P : Params) : Obj := ⟨(.type "tuple"),none,(.seq ⟨[(.str ⟨⟨[95,99,97,99,104,101,100]⟩⟩ 219),(.str ⟨⟨[95,115,101,116,95,102,105,108,101,97,116,116,114]⟩⟩ 220),(.str ⟨⟨[95,117,110,105,110,105,116,105,97,108,105,122,101,100,95,115,117,98,109,111,100,117,108,101,115]⟩⟩ 221),(.str ⟨⟨[108,111,97,100,101,114]⟩⟩ 222),(.str ⟨⟨[108,111,97,100,101,114,95,115,116,97,116,101]⟩⟩ 223),(.str ⟨⟨[110,97,109,101]⟩⟩ 224),(.str ⟨⟨[111,114,105,103,105,110]⟩⟩ 225),(.str ⟨⟨[115,117,98,109,111,100,117,108,101,95,115,101,97,114,99,104,95,108,111,99,97,116,105,111,110,115]⟩⟩ 226)]⟩ 0),⟨[]⟩⟩
noncomputable def ob24 (P : Params) : Obj := ⟨(.type "getset_descriptor"),none,(.fields ⟨[(.str ⟨⟨[95,95,100,105,99,116,95,95]⟩⟩ 237),(.ref 22),(.builtin "function.__dict__"),(.builtin "function.__dict__#set")]⟩),⟨[]⟩⟩
noncomputable def ob25 (P : Params) : Obj := ⟨(.type "getset_descriptor"),none,(.fields ⟨[(.str ⟨⟨[95,95,119,101,97,107,114,101,102,95,95]⟩⟩ 239),(.ref 22),(.builtin "ExceptionGroup.__weakref__"),.none]⟩),⟨[]⟩⟩
noncomputable def ob26 (P : Params) : Obj := ⟨(.ref 22),(some 20),.plain,⟨[]⟩⟩
noncomputable def ob27 (P : Params) : Obj := ⟨.none,none,(.seq ⟨[(.int (.ofNat 11) 0),(.str ⟨⟨[6,247,8,95,95,110,97,109,101,95,95,6,246,4,95,115,114,101,6,248,7,95,95,100,111,99,95,95,0,6,250,11,95,95,112,97,99,107,97,103,101,95,95,6,249,0,6,251,10,95,95,108,111,97,100,101,114,95,95,4,0,0,14,6,252,8,95,95,115,112,101,99,95,95,4,0,0,26,6,253,7,99,111,109,112,105,108,101,9,12,95,115,114,101,46,99,111,109,112,105,108,101,6,254,8,116,101,109,112,108,97,116,101,9,13,95,115,114,101,46,116,101,109,112,108,97,116,101,6,255,11,103,101,116,99,111,100,101,115,105,122,101,9,16,95,115,114,101,46,103,101,116,99,111,100,101,115,105,122,101,6,256,13,97,115,99,105,105,95,105,115,99,97,115,101,100,9,18,95,115,114,101,46,97,115,99,105,105,95,105,115,99,97,115,101,100,6,257,15,117,110,105,99,111,100,101,95,105,115,99,97,115,101,100,9,20,95,115,114,101,46,117,110,105,99,111,100,101,95,105,115,99,97,115,101,100,6,258,13,97,115,99,105,105,95,116,111,108,111,119,101,114,9,18,95,115,114,101,46,97,115,99,105,105,95,116,111,108,111,119,101,114,6,259,15,117,110,105,99,111,100,101,95,116,111,108,111,119,101,114,9,20,95,115,114,101,46,117,110,105,99,111,100,101,95,116,111,108,111,119,101,114,6,261,5,77,65,71,73,67,4,260,0,20230612,6,263,8,67,79,68,69,83,73,90,69,4,262,0,4,6,265,9,77,65,88,82,69,80,69,65,84,4,264,0,4294967295,6,267,9,77,65,88,71,82,79,85,80,83,4,266,0,1073741823,6,269,9,99,111,112,121,114,105,103,104,116,6,268,53,32,83,82,69,32,50,46,50,46,50,32,67,111,112,121,114,105,103,104,116,32,40,99,41,32,49,57,57,55,45,50,48,48,50,32,98,121,32,83,101,99,114,101,116,32,76,97,98,115,32,65,66,32]⟩⟩ 0),(.bool true),(.bool false),(.str ⟨⟨[95,115,114,101]⟩⟩ 271)]⟩ 0),⟨[]⟩⟩
noncomputable def life0 : Life := {}
noncomputable def heap0 (P : Params) : Heap := ⟨⟨[ob0 P,ob1 P,ob2 P,ob3 P,ob4 P,ob5 P,ob6 P,ob7 P,ob8 P,ob9 P,ob10 P,ob11 P,ob12 P,ob13 P,ob14 P,ob15 P,ob16 P,ob17 P,ob18 P,ob19 P,ob20 P,ob21 P,ob22 P,ob23 P,ob24 P,ob25 P,ob26 P,ob27 P]⟩,life0⟩
noncomputable def op11 (P : Params) : Obj := ⟨(.type "dict"),none,(.dict ⟨[⟨kh P ⟨⟨[95,95,110,97,109,101,95,95]⟩⟩,(.str ⟨⟨[95,95,110,97,109,101,95,95]⟩⟩ 247),(.str ⟨⟨[95,115,114,101]⟩⟩ 246)⟩,⟨kh P ⟨⟨[95,95,100,111,99,95,95]⟩⟩,(.str ⟨⟨[95,95,100,111,99,95,95]⟩⟩ 248),.none⟩,⟨kh P ⟨⟨[95,95,112,97,99,107,97,103,101,95,95]⟩⟩,(.str ⟨⟨[95,95,112,97,99,107,97,103,101,95,95]⟩⟩ 250),(.str ⟨⟨[]⟩⟩ 249)⟩,⟨kh P ⟨⟨[95,95,108,111,97,100,101,114,95,95]⟩⟩,(.str ⟨⟨[95,95,108,111,97,100,101,114,95,95]⟩⟩ 251),(.ref 14)⟩,⟨kh P ⟨⟨[95,95,115,112,101,99,95,95]⟩⟩,(.str ⟨⟨[95,95,115,112,101,99,95,95]⟩⟩ 252),(.ref 26)⟩,⟨kh P ⟨⟨[99,111,109,112,105,108,101]⟩⟩,(.str ⟨⟨[99,111,109,112,105,108,101]⟩⟩ 253),(.builtin "_sre.compile")⟩,⟨kh P ⟨⟨[116,101,109,112,108,97,116,101]⟩⟩,(.str ⟨⟨[116,101,109,112,108,97,116,101]⟩⟩ 254),(.builtin "_sre.template")⟩,⟨kh P ⟨⟨[103,101,116,99,111,100,101,115,105,122,101]⟩⟩,(.str ⟨⟨[103,101,116,99,111,100,101,115,105,122,101]⟩⟩ 255),(.builtin "_sre.getcodesize")⟩,⟨kh P ⟨⟨[97,115,99,105,105,95,105,115,99,97,115,101,100]⟩⟩,(.str ⟨⟨[97,115,99,105,105,95,105,115,99,97,115,101,100]⟩⟩ 256),(.builtin "_sre.ascii_iscased")⟩,⟨kh P ⟨⟨[117,110,105,99,111,100,101,95,105,115,99,97,115,101,100]⟩⟩,(.str ⟨⟨[117,110,105,99,111,100,101,95,105,115,99,97,115,101,100]⟩⟩ 257),(.builtin "_sre.unicode_iscased")⟩,⟨kh P ⟨⟨[97,115,99,105,105,95,116,111,108,111,119,101,114]⟩⟩,(.str ⟨⟨[97,115,99,105,105,95,116,111,108,111,119,101,114]⟩⟩ 258),(.builtin "_sre.ascii_tolower")⟩,⟨kh P ⟨⟨[117,110,105,99,111,100,101,95,116,111,108,111,119,101,114]⟩⟩,(.str ⟨⟨[117,110,105,99,111,100,101,95,116,111,108,111,119,101,114]⟩⟩ 259),(.builtin "_sre.unicode_tolower")⟩,⟨kh P ⟨⟨[77,65,71,73,67]⟩⟩,(.str ⟨⟨[77,65,71,73,67]⟩⟩ 261),(.int (.ofNat 20230612) 260)⟩,⟨kh P ⟨⟨[67,79,68,69,83,73,90,69]⟩⟩,(.str ⟨⟨[67,79,68,69,83,73,90,69]⟩⟩ 263),(.int (.ofNat 4) 262)⟩,⟨kh P ⟨⟨[77,65,88,82,69,80,69,65,84]⟩⟩,(.str ⟨⟨[77,65,88,82,69,80,69,65,84]⟩⟩ 265),(.int (.ofNat 4294967295) 264)⟩,⟨kh P ⟨⟨[77,65,88,71,82,79,85,80,83]⟩⟩,(.str ⟨⟨[77,65,88,71,82,79,85,80,83]⟩⟩ 267),(.int (.ofNat 1073741823) 266)⟩,⟨kh P ⟨⟨[99,111,112,121,114,105,103,104,116]⟩⟩,(.str ⟨⟨[99,111,112,121,114,105,103,104,116]⟩⟩ 269),(.str ⟨⟨[32,83,82,69,32,50,46,50,46,50,32,67,111,112,121,114,105,103,104,116,32,40,99,41,32,49,57,57,55,45,50,48,48,50,32,98,121,32,83,101,99,114,101,116,32,76,97,98,115,32,65,66,32]⟩⟩ 268)⟩]⟩ 17),⟨[]⟩⟩
noncomputable def heapE (P : Params) : Heap := ⟨⟨[ob0 P,ob1 P,ob2 P,ob3 P,ob4 P,ob5 P,ob6 P,ob7 P,ob8 P,ob9 P,ob10 P,op11 P,ob12 P,ob13 P,ob14 P,ob15 P,ob16 P,ob17 P,ob18 P,ob19 P,ob20 P,ob21 P,ob22 P,ob23 P,ob24 P,ob25 P,ob26 P,ob27 P]⟩,life0⟩
noncomputable abbrev prog : Program := PySem.Challenge.pw_wj0045_01
end Hd
end Mine
end
section -- H1
open PySem PySem.W PyProof.Rows PySem.Calls
set_option Elab.async false
set_option linter.all false
set_option maxRecDepth 100000
namespace Mine
namespace Hd
open PySem.W.Fast
set_option maxHeartbeats 0 in
theorem opening_runs (w : World) : importEnds treeTable (opening prog) w 799 (start (opening prog)).1 (start (opening prog)).2 = some ⟨heapE w.params, ⟨[]⟩, {}, 276, (start (opening prog)).1.os⟩ := by
  rw [te10274390034422433532, te14364793385576792824]
  kernel_rfl!
theorem fence_runs (w : World) (os : OsState) : (fenceModules? prog ⟨heapE w.params, ⟨[]⟩, {}, 276, os⟩).map (fun s => (s.heap, s.gens, s.drawn, s.toks)) = some (heap0 w.params, ⟨[]⟩, {}, 276) := by
  rw [te14289696077712309145]
  kernel_rfl!
theorem open_runs (N : Nat) (hN : Nat.ble 799 N = true) (w : World) : (fencedOpening treeTable prog w N).map (fun s => (s.heap, s.gens, s.drawn, s.toks)) = some (heap0 w.params, ⟨[]⟩, {}, 276) :=
  open_cut (He := heapE) (ge := ⟨[]⟩) (de := {}) (ke := 276) opening_runs hN (fun w => funext fun os => fence_runs w os) w
end Hd
end Mine
end
section -- H4
open PySem PySem.W PyProof.Rows PySem.Calls
set_option Elab.async false
set_option linter.all false
set_option maxRecDepth 100000
namespace Mine
namespace Hd
/-- the table of b3_exceptions -/
noncomputable def b3L : List (Nat × List Nat) := [(181,[956]),(223,[115,115]),(304,[105,775]),(329,[700,110]),(383,[115]),(496,[106,780]),(837,[953]),(890,[32,953]),(912,[953,776,769]),(944,[965,776,769]),(962,[963]),(976,[946]),(977,[952]),(978,[965]),(979,[973]),(980,[971]),(981,[966]),(982,[960]),(1008,[954]),(1009,[961]),(1010,[963]),(1013,[949]),(1415,[1381,1410]),(7830,[104,817]),(7831,[116,776]),(7832,[119,778]),(7833,[121,778]),(7834,[97,702]),(7835,[7777]),(8016,[965,787]),(8018,[965,787,768]),(8020,[965,787,769]),(8022,[965,787,834]),(8064,[7936,953]),(8065,[7937,953]),(8066,[7938,953]),(8067,[7939,953]),(8068,[7940,953]),(8069,[7941,953]),(8070,[7942,953]),(8071,[7943,953]),(8072,[7936,953]),(8073,[7937,953]),(8074,[7938,953]),(8075,[7939,953]),(8076,[7940,953]),(8077,[7941,953]),(8078,[7942,953]),(8079,[7943,953]),(8080,[7968,953]),(8081,[7969,953]),(8082,[7970,953]),(8083,[7971,953]),(8084,[7972,953]),(8085,[7973,953]),(8086,[7974,953]),(8087,[7975,953]),(8088,[7968,953]),(8089,[7969,953]),(8090,[7970,953]),(8091,[7971,953]),(8092,[7972,953]),(8093,[7973,953]),(8094,[7974,953]),(8095,[7975,953]),(8096,[8032,953]),(8097,[8033,953]),(8098,[8034,953]),(8099,[8035,953]),(8100,[8036,953]),(8101,[8037,953]),(8102,[8038,953]),(8103,[8039,953]),(8104,[8032,953]),(8105,[8033,953]),(8106,[8034,953]),(8107,[8035,953]),(8108,[8036,953]),(8109,[8037,953]),(8110,[8038,953]),(8111,[8039,953]),(8114,[8048,953]),(8115,[945,953]),(8116,[940,953]),(8118,[945,834]),(8119,[945,834,953]),(8124,[945,953]),(8126,[953]),(8130,[8052,953]),(8131,[951,953]),(8132,[942,953]),(8134,[951,834]),(8135,[951,834,953]),(8140,[951,953]),(8146,[953,776,768]),(8147,[953,776,769]),(8150,[953,834]),(8151,[953,776,834]),(8162,[965,776,768]),(8163,[965,776,769]),(8164,[961,787]),(8166,[965,834]),(8167,[965,776,834]),(8178,[8060,953]),(8179,[969,953]),(8180,[974,953]),(8182,[969,834]),(8183,[969,834,953]),(8188,[969,953]),(8360,[114,115]),(8450,[99]),(8451,[176,99]),(8455,[603]),(8457,[176,102]),(8459,[104]),(8460,[104]),(8461,[104]),(8464,[105]),(8465,[105]),(8466,[108]),(8469,[110]),(8470,[110,111]),(8473,[112]),(8474,[113]),(8475,[114]),(8476,[114]),(8477,[114]),(8480,[115,109]),(8481,[116,101,108]),(8482,[116,109]),(8484,[122]),(8488,[122]),(8492,[98]),(8493,[99]),(8496,[101]),(8497,[102]),(8499,[109]),(8510,[947]),(8511,[960]),(8517,[100]),(13169,[104,112,97]),(13171,[97,117]),(13173,[111,118]),(13184,[112,97]),(13185,[110,97]),(13186,[956,97]),(13187,[109,97]),(13188,[107,97]),(13189,[107,98]),(13190,[109,98]),(13191,[103,98]),(13194,[112,102]),(13195,[110,102]),(13196,[956,102]),(13200,[104,122]),(13201,[107,104,122]),(13202,[109,104,122]),(13203,[103,104,122]),(13204,[116,104,122]),(13225,[112,97]),(13226,[107,112,97]),(13227,[109,112,97]),(13228,[103,112,97]),(13236,[112,118]),(13237,[110,118]),(13238,[956,118]),(13239,[109,118]),(13240,[107,118]),(13241,[109,118]),(13242,[112,119]),(13243,[110,119]),(13244,[956,119]),(13245,[109,119]),(13246,[107,119]),(13247,[109,119]),(13248,[107,969]),(13249,[109,969]),(13251,[98,113]),(13254,[99,8725,107,103]),(13255,[99,111,46]),(13256,[100,98]),(13257,[103,121]),(13259,[104,112]),(13261,[107,107]),(13262,[107,109]),(13271,[112,104]),(13273,[112,112,109]),(13274,[112,114]),(13276,[115,118]),(13277,[119,98]),(64256,[102,102]),(64257,[102,105]),(64258,[102,108]),(64259,[102,102,105]),(64260,[102,102,108]),(64261,[115,116]),(64262,[115,116]),(64275,[1396,1398]),(64276,[1396,1381]),(64277,[1396,1387]),(64278,[1406,1398]),(64279,[1396,1389]),(119808,[97]),(119809,[98]),(119810,[99]),(119811,[100]),(119812,[101]),(119813,[102]),(119814,[103]),(119815,[104]),(119816,[105]),(119817,[106]),(119818,[107]),(119819,[108]),(119820,[109]),(119821,[110]),(119822,[111]),(119823,[112]),(119824,[113]),(119825,[114]),(119826,[115]),(119827,[116]),(119828,[117]),(119829,[118]),(119830,[119]),(119831,[120]),(119832,[121]),(119833,[122]),(119860,[97]),(119861,[98]),(119862,[99]),(119863,[100]),(119864,[101]),(119865,[102]),(119866,[103]),(119867,[104]),(119868,[105]),(119869,[106]),(119870,[107]),(119871,[108]),(119872,[109]),(119873,[110]),(119874,[111]),(119875,[112]),(119876,[113]),(119877,[114]),(119878,[115]),(119879,[116]),(119880,[117]),(119881,[118]),(119882,[119]),(119883,[120]),(119884,[121]),(119885,[122]),(119912,[97]),(119913,[98]),(119914,[99]),(119915,[100]),(119916,[101]),(119917,[102]),(119918,[103]),(119919,[104]),(119920,[105]),(119921,[106]),(119922,[107]),(119923,[108]),(119924,[109]),(119925,[110]),(119926,[111]),(119927,[112]),(119928,[113]),(119929,[114]),(119930,[115]),(119931,[116]),(119932,[117]),(119933,[118]),(119934,[119]),(119935,[120]),(119936,[121]),(119937,[122]),(119964,[97]),(119966,[99]),(119967,[100]),(119970,[103]),(119973,[106]),(119974,[107]),(119977,[110]),(119978,[111]),(119979,[112]),(119980,[113]),(119982,[115]),(119983,[116]),(119984,[117]),(119985,[118]),(119986,[119]),(119987,[120]),(119988,[121]),(119989,[122]),(120016,[97]),(120017,[98]),(120018,[99]),(120019,[100]),(120020,[101]),(120021,[102]),(120022,[103]),(120023,[104]),(120024,[105]),(120025,[106]),(120026,[107]),(120027,[108]),(120028,[109]),(120029,[110]),(120030,[111]),(120031,[112]),(120032,[113]),(120033,[114]),(120034,[115]),(120035,[116]),(120036,[117]),(120037,[118]),(120038,[119]),(120039,[120]),(120040,[121]),(120041,[122]),(120068,[97]),(120069,[98]),(120071,[100]),(120072,[101]),(120073,[102]),(120074,[103]),(120077,[106]),(120078,[107]),(120079,[108]),(120080,[109]),(120081,[110]),(120082,[111]),(120083,[112]),(120084,[113]),(120086,[115]),(120087,[116]),(120088,[117]),(120089,[118]),(120090,[119]),(120091,[120]),(120092,[121]),(120120,[97]),(120121,[98]),(120123,[100]),(120124,[101]),(120125,[102]),(120126,[103]),(120128,[105]),(120129,[106]),(120130,[107]),(120131,[108]),(120132,[109]),(120134,[111]),(120138,[115]),(120139,[116]),(120140,[117]),(120141,[118]),(120142,[119]),(120143,[120]),(120144,[121]),(120172,[97]),(120173,[98]),(120174,[99]),(120175,[100]),(120176,[101]),(120177,[102]),(120178,[103]),(120179,[104]),(120180,[105]),(120181,[106]),(120182,[107]),(120183,[108]),(120184,[109]),(120185,[110]),(120186,[111]),(120187,[112]),(120188,[113]),(120189,[114]),(120190,[115]),(120191,[116]),(120192,[117]),(120193,[118]),(120194,[119]),(120195,[120]),(120196,[121]),(120197,[122]),(120224,[97]),(120225,[98]),(120226,[99]),(120227,[100]),(120228,[101]),(120229,[102]),(120230,[103]),(120231,[104]),(120232,[105]),(120233,[106]),(120234,[107]),(120235,[108]),(120236,[109]),(120237,[110]),(120238,[111]),(120239,[112]),(120240,[113]),(120241,[114]),(120242,[115]),(120243,[116]),(120244,[117]),(120245,[118]),(120246,[119]),(120247,[120]),(120248,[121]),(120249,[122]),(120276,[97]),(120277,[98]),(120278,[99]),(120279,[100]),(120280,[101]),(120281,[102]),(120282,[103]),(120283,[104]),(120284,[105]),(120285,[106]),(120286,[107]),(120287,[108]),(120288,[109]),(120289,[110]),(120290,[111]),(120291,[112]),(120292,[113]),(120293,[114]),(120294,[115]),(120295,[116]),(120296,[117]),(120297,[118]),(120298,[119]),(120299,[120]),(120300,[121]),(120301,[122]),(120328,[97]),(120329,[98]),(120330,[99]),(120331,[100]),(120332,[101]),(120333,[102]),(120334,[103]),(120335,[104]),(120336,[105]),(120337,[106]),(120338,[107]),(120339,[108]),(120340,[109]),(120341,[110]),(120342,[111]),(120343,[112]),(120344,[113]),(120345,[114]),(120346,[115]),(120347,[116]),(120348,[117]),(120349,[118]),(120350,[119]),(120351,[120]),(120352,[121]),(120353,[122]),(120380,[97]),(120381,[98]),(120382,[99]),(120383,[100]),(120384,[101]),(120385,[102]),(120386,[103]),(120387,[104]),(120388,[105]),(120389,[106]),(120390,[107]),(120391,[108]),(120392,[109]),(120393,[110]),(120394,[111]),(120395,[112]),(120396,[113]),(120397,[114]),(120398,[115]),(120399,[116]),(120400,[117]),(120401,[118]),(120402,[119]),(120403,[120]),(120404,[121]),(120405,[122]),(120432,[97]),(120433,[98]),(120434,[99]),(120435,[100]),(120436,[101]),(120437,[102]),(120438,[103]),(120439,[104]),(120440,[105]),(120441,[106]),(120442,[107]),(120443,[108]),(120444,[109]),(120445,[110]),(120446,[111]),(120447,[112]),(120448,[113]),(120449,[114]),(120450,[115]),(120451,[116]),(120452,[117]),(120453,[118]),(120454,[119]),(120455,[120]),(120456,[121]),(120457,[122]),(120488,[945]),(120489,[946]),(120490,[947]),(120491,[948]),(120492,[949]),(120493,[950]),(120494,[951]),(120495,[952]),(120496,[953]),(120497,[954]),(120498,[955]),(120499,[956]),(120500,[957]),(120501,[958]),(120502,[959]),(120503,[960]),(120504,[961]),(120505,[952]),(120506,[963]),(120507,[964]),(120508,[965]),(120509,[966]),(120510,[967]),(120511,[968]),(120512,[969]),(120531,[963]),(120546,[945]),(120547,[946]),(120548,[947]),(120549,[948]),(120550,[949]),(120551,[950]),(120552,[951]),(120553,[952]),(120554,[953]),(120555,[954]),(120556,[955]),(120557,[956]),(120558,[957]),(120559,[958]),(120560,[959]),(120561,[960]),(120562,[961]),(120563,[952]),(120564,[963]),(120565,[964]),(120566,[965]),(120567,[966]),(120568,[967]),(120569,[968]),(120570,[969]),(120589,[963]),(120604,[945]),(120605,[946]),(120606,[947]),(120607,[948]),(120608,[949]),(120609,[950]),(120610,[951]),(120611,[952]),(120612,[953]),(120613,[954]),(120614,[955]),(120615,[956]),(120616,[957]),(120617,[958]),(120618,[959]),(120619,[960]),(120620,[961]),(120621,[952]),(120622,[963]),(120623,[964]),(120624,[965]),(120625,[966]),(120626,[967]),(120627,[968]),(120628,[969]),(120647,[963]),(120662,[945]),(120663,[946]),(120664,[947]),(120665,[948]),(120666,[949]),(120667,[950]),(120668,[951]),(120669,[952]),(120670,[953]),(120671,[954]),(120672,[955]),(120673,[956]),(120674,[957]),(120675,[958]),(120676,[959]),(120677,[960]),(120678,[961]),(120679,[952]),(120680,[963]),(120681,[964]),(120682,[965]),(120683,[966]),(120684,[967]),(120685,[968]),(120686,[969]),(120705,[963]),(120720,[945]),(120721,[946]),(120722,[947]),(120723,[948]),(120724,[949]),(120725,[950]),(120726,[951]),(120727,[952]),(120728,[953]),(120729,[954]),(120730,[955]),(120731,[956]),(120732,[957]),(120733,[958]),(120734,[959]),(120735,[960]),(120736,[961]),(120737,[952]),(120738,[963]),(120739,[964]),(120740,[965]),(120741,[966]),(120742,[967]),(120743,[968]),(120744,[969]),(120763,[963])]
/-- the entries of the table, the marks counted on from n -/
noncomputable def entsFrom : Nat → List (Nat × List Nat) → List DictEntry
  | _, [] => []
  | n, (k, s) :: r => ⟨(k : Int), .int (k : Int) n, .str ⟨⟨s⟩⟩ (n + 1)⟩ :: entsFrom (n + 3) r
/-- the entries of a short run: keys and values ahead of the hashes -/
noncomputable def entsShort : Nat → List (Nat × List Nat) → List DictEntry
  | _, [] => []
  | n, (k, s) :: r => ⟨(k : Int), .int (k : Int) n, .str ⟨⟨s⟩⟩ (n + 1)⟩ :: entsShort (n + 2) r
noncomputable def dictO (es : List DictEntry) (n : Nat) : Obj := ⟨.type "dict", none, .dict ⟨es⟩ n, ⟨[]⟩⟩
noncomputable def subO (j : Nat) : Obj := dictO (entsFrom (524 + 51 * j) ((b3L.drop (17 * j)).take 17)) 17
noncomputable def ob115 (P : Params) : Obj := dictO (entsFrom 524 (b3L.take 646) ++ entsShort 2462 (b3L.drop 646)) 650
noncomputable def ob153 (P : Params) : Obj := dictO (entsShort 2462 (b3L.drop 646)) 4
noncomputable def ob116 (P : Params) : Obj := subO 1
noncomputable def ob117 (P : Params) : Obj := subO 2
noncomputable def ob118 (P : Params) : Obj := subO 3
noncomputable def ob119 (P : Params) : Obj := subO 4
noncomputable def ob120 (P : Params) : Obj := subO 5
noncomputable def ob121 (P : Params) : Obj := subO 6
noncomputable def ob122 (P : Params) : Obj := subO 7
noncomputable def ob123 (P : Params) : Obj := subO 8
noncomputable def ob124 (P : Params) : Obj := subO 9
noncomputable def ob125 (P : Params) : Obj := subO 10
noncomputable def ob126 (P : Params) : Obj := subO 11
noncomputable def ob127 (P : Params) : Obj := subO 12
noncomputable def ob128 (P : Params) : Obj := subO 13
noncomputable def ob129 (P : Params) : Obj := subO 14
noncomputable def ob130 (P : Params) : Obj := subO 15
noncomputable def ob131 (P : Params) : Obj := subO 16
noncomputable def ob132 (P : Params) : Obj := subO 17
noncomputable def ob133 (P : Params) : Obj := subO 18
noncomputable def ob134 (P : Params) : Obj := subO 19
noncomputable def ob135 (P : Params) : Obj := subO 20
noncomputable def ob136 (P : Params) : Obj := subO 21
noncomputable def ob137 (P : Params) : Obj := subO 22
noncomputable def ob138 (P : Params) : Obj := subO 23
noncomputable def ob139 (P : Params) : Obj := subO 24
noncomputable def ob140 (P : Params) : Obj := subO 25
noncomputable def ob141 (P : Params) : Obj := subO 26
noncomputable def ob142 (P : Params) : Obj := subO 27
noncomputable def ob143 (P : Params) : Obj := subO 28
noncomputable def ob144 (P : Params) : Obj := subO 29
noncomputable def ob145 (P : Params) : Obj := subO 30
noncomputable def ob146 (P : Params) : Obj := subO 31
noncomputable def ob147 (P : Params) : Obj := subO 32
noncomputable def ob148 (P : Params) : Obj := subO 33
noncomputable def ob149 (P : Params) : Obj := subO 34
noncomputable def ob150 (P : Params) : Obj := subO 35
noncomputable def ob151 (P : Params) : Obj := subO 36
noncomputable def ob152 (P : Params) : Obj := subO 37
noncomputable def ob28 (P : Params) : Obj := ⟨(.type "tuple"),none,(.seq ⟨[]⟩ 0),⟨[]⟩⟩
noncomputable def ob29 (P : Params) : Obj := ⟨.none,none,(.fields ⟨[]⟩),⟨[]⟩⟩
noncomputable def ob30 (P : Params) : Obj := ⟨(.type "code"),none,(.fields ⟨[(.str ⟨⟨[60,109,111,100,117,108,101,62]⟩⟩ 277),(.str ⟨⟨[60,109,111,100,117,108,101,62]⟩⟩ 278),(.str ⟨⟨[47,99,108,97,105,109,47,99,117,116,46,112,121]⟩⟩ 279),(.int (.ofNat 1) 0),(.int (.ofNat 0) 0),(.int (.ofNat 0) 0),(.int (.ofNat 0) 0),(.int (.ofNat 0) 0),(.ref 28),(.bool false),(.int (.ofNat 276) 0),(.ref 29),.none,.none,.none,.none,(.int (.ofNat 280) 0),(.int (.ofNat 1) 0),(.str ⟨⟨[47,99,108,97,105,109,47,99,117,116,46,112,121]⟩⟩ 281)]⟩),⟨[]⟩⟩
noncomputable def ob31 (P : Params) : Obj := ⟨(.type "frame"),none,.plain,⟨[(some (.ref 30)),(some (.ref 3)),(some (.ref 3)),none,(some (.str ⟨⟨[95,95,109,97,105,110,95,95]⟩⟩ 164)),none,(some (.ref 0))]⟩⟩
noncomputable def tree_a (P : Params) : BT := (.node (ob0 P) (.node (ob1 P) (.node (ob3 P) (.node (ob7 P) (.node (ob15 P) (.node (ob31 P) .nil .nil) .nil) (.node (ob23 P) .nil .nil)) (.node (ob11 P) (.node (ob19 P) .nil .nil) (.node (ob27 P) .nil .nil))) (.node (ob5 P) (.node (ob9 P) (.node (ob17 P) .nil .nil) (.node (ob25 P) .nil .nil)) (.node (ob13 P) (.node (ob21 P) .nil .nil) (.node (ob29 P) .nil .nil)))) (.node (ob2 P) (.node (ob4 P) (.node (ob8 P) (.node (ob16 P) .nil .nil) (.node (ob24 P) .nil .nil)) (.node (ob12 P) (.node (ob20 P) .nil .nil) (.node (ob28 P) .nil .nil))) (.node (ob6 P) (.node (ob10 P) (.node (ob18 P) .nil .nil) (.node (ob26 P) .nil .nil)) (.node (ob14 P) (.node (ob22 P) .nil .nil) (.node (ob30 P) .nil .nil)))))
noncomputable def ob3_9 (P : Params) : Obj := ⟨(.type "dict"),none,(.dict ⟨[⟨kh P ⟨⟨[95,95,110,97,109,101,95,95]⟩⟩,(.str ⟨⟨[95,95,110,97,109,101,95,95]⟩⟩ 165),(.str ⟨⟨[99,112,121,51,49,51,46,115,109,116,112,108,105,98]⟩⟩ 386)⟩,⟨kh P ⟨⟨[95,95,100,111,99,95,95]⟩⟩,(.str ⟨⟨[95,95,100,111,99,95,95]⟩⟩ 166),.none⟩,⟨kh P ⟨⟨[95,95,112,97,99,107,97,103,101,95,95]⟩⟩,(.str ⟨⟨[95,95,112,97,99,107,97,103,101,95,95]⟩⟩ 167),.none⟩,⟨kh P ⟨⟨[95,95,108,111,97,100,101,114,95,95]⟩⟩,(.str ⟨⟨[95,95,108,111,97,100,101,114,95,95]⟩⟩ 168),(.builtin "__main__.__loader__#opaque")⟩,⟨kh P ⟨⟨[95,95,115,112,101,99,95,95]⟩⟩,(.str ⟨⟨[95,95,115,112,101,99,95,95]⟩⟩ 169),.none⟩,⟨kh P ⟨⟨[95,95,97,110,110,111,116,97,116,105,111,110,115,95,95]⟩⟩,(.str ⟨⟨[95,95,97,110,110,111,116,97,116,105,111,110,115,95,95]⟩⟩ 170),(.ref 6)⟩,⟨kh P ⟨⟨[95,95,98,117,105,108,116,105,110,115,95,95]⟩⟩,(.str ⟨⟨[95,95,98,117,105,108,116,105,110,115,95,95]⟩⟩ 171),(.ref 4)⟩,⟨kh P ⟨⟨[95,95,102,105,108,101,95,95]⟩⟩,(.str ⟨⟨[95,95,102,105,108,101,95,95]⟩⟩ 173),(.str ⟨⟨[47,99,108,97,105,109,47,99,117,116,46,112,121]⟩⟩ 172)⟩,⟨kh P ⟨⟨[95,95,99,97,99,104,101,100,95,95]⟩⟩,(.str ⟨⟨[95,95,99,97,99,104,101,100,95,95]⟩⟩ 174),.none⟩,⟨kh P ⟨⟨[95,115,114,101]⟩⟩,(.str ⟨⟨[95,115,114,101]⟩⟩ 275),(.ref 12)⟩,⟨kh P ⟨⟨[95,113,117,111,116,101,100]⟩⟩,(.str ⟨⟨[95,113,117,111,116,101,100]⟩⟩ 327),(.ref 36)⟩,⟨kh P ⟨⟨[95,112,97,114,101,110,95,100,101,112,116,104]⟩⟩,(.str ⟨⟨[95,112,97,114,101,110,95,100,101,112,116,104]⟩⟩ 336),(.ref 44)⟩,⟨kh P ⟨⟨[73,110,116,50,65,80]⟩⟩,(.str ⟨⟨[73,110,116,50,65,80]⟩⟩ 346),(.ref 51)⟩,⟨kh P ⟨⟨[103,116]⟩⟩,(.str ⟨⟨[103,116]⟩⟩ 356),(.ref 58)⟩,⟨kh P ⟨⟨[99,111,117,110,116,79,102]⟩⟩,(.str ⟨⟨[99,111,117,110,116,79,102]⟩⟩ 366),(.ref 65)⟩,⟨kh P ⟨⟨[105,110,100,101,120,79,102]⟩⟩,(.str ⟨⟨[105,110,100,101,120,79,102]⟩⟩ 376),(.ref 72)⟩,⟨kh P ⟨⟨[115,101,116,105,116,101,109]⟩⟩,(.str ⟨⟨[115,101,116,105,116,101,109]⟩⟩ 385),(.ref 79)⟩]⟩ 17),⟨[]⟩⟩
noncomputable def ob29_9 (P : Params) : Obj := ⟨.none,none,(.fields ⟨[(.int (.ofNat 4) 0),(.int (.ofNat 0) 0),(.ref 43),(.int (.ofNat 7) 0),(.int (.ofNat 0) 0),(.ref 50),(.int (.ofNat 16) 0),(.int (.ofNat 0) 0),(.ref 57),(.int (.ofNat 18) 0),(.int (.ofNat 0) 0),(.ref 64),(.int (.ofNat 24) 0),(.int (.ofNat 0) 0),(.ref 71),(.int (.ofNat 30) 0),(.int (.ofNat 0) 0),(.ref 78)]⟩),⟨[]⟩⟩
noncomputable def ob32 (P : Params) : Obj := ⟨(.type "list"),none,(.seq ⟨[(.int (.ofNat 14) 287),(.int (.ofNat 8) 288),(.int (.ofNat 1) 289),(.int (.ofNat 2) 290),(.int (.ofNat 4294967295) 291),(.int (.ofNat 1) 292),(.int (.ofNat 1) 293),(.int (.ofNat 34) 294),(.int (.ofNat 0) 295),(.int (.ofNat 16) 296),(.int (.ofNat 34) 297),(.int (.ofNat 28) 298),(.int (.ofNat 22) 299),(.int (.ofNat 0) 300),(.int (.ofNat 4294967295) 301),(.int (.ofNat 7) 302),(.int (.ofNat 11) 303),(.int (.ofNat 13) 304),(.int (.ofNat 7) 305),(.int (.ofNat 21) 306),(.int (.ofNat 16) 307),(.int (.ofNat 34) 308),(.int (.ofNat 16) 309),(.int (.ofNat 92) 310),(.int (.ofNat 0) 311),(.int (.ofNat 15) 312),(.int (.ofNat 8) 313),(.int (.ofNat 6) 314),(.int (.ofNat 16) 315),(.int (.ofNat 92) 316),(.int (.ofNat 2) 317),(.int (.ofNat 15) 318),(.int (.ofNat 2) 319),(.int (.ofNat 0) 320),(.int (.ofNat 1) 321),(.int (.ofNat 16) 322),(.int (.ofNat 34) 323),(.int (.ofNat 1) 324)]⟩ 0),⟨[]⟩⟩
noncomputable def ob33 (P : Params) : Obj := ⟨(.type "dict"),none,(.dict ⟨[]⟩ 0),⟨[]⟩⟩
noncomputable def ob34 (P : Params) : Obj := ⟨(.type "tuple"),none,(.seq ⟨[.none]⟩ 0),⟨[]⟩⟩
noncomputable def ob35 (P : Params) : Obj := ⟨(.type "tuple"),none,(.seq ⟨[(.int (.ofNat 14) 0),(.int (.ofNat 8) 0),(.int (.ofNat 1) 0),(.int (.ofNat 2) 0),(.int (.ofNat 4294967295) 0),(.int (.ofNat 1) 0),(.int (.ofNat 1) 0),(.int (.ofNat 34) 0),(.int (.ofNat 0) 0),(.int (.ofNat 16) 0),(.int (.ofNat 34) 0),(.int (.ofNat 28) 0),(.int (.ofNat 22) 0),(.int (.ofNat 0) 0),(.int (.ofNat 4294967295) 0),(.int (.ofNat 7) 0),(.int (.ofNat 11) 0),(.int (.ofNat 13) 0),(.int (.ofNat 7) 0),(.int (.ofNat 21) 0),(.int (.ofNat 16) 0),(.int (.ofNat 34) 0),(.int (.ofNat 16) 0),(.int (.ofNat 92) 0),(.int (.ofNat 0) 0),(.int (.ofNat 15) 0),(.int (.ofNat 8) 0),(.int (.ofNat 6) 0),(.int (.ofNat 16) 0),(.int (.ofNat 92) 0),(.int (.ofNat 2) 0),(.int (.ofNat 15) 0),(.int (.ofNat 2) 0),(.int (.ofNat 0) 0),(.int (.ofNat 1) 0),(.int (.ofNat 16) 0),(.int (.ofNat 34) 0),(.int (.ofNat 1) 0)]⟩ 0),⟨[]⟩⟩
noncomputable def ob36 (P : Params) : Obj := ⟨(.type "re.Pattern"),none,(.fields ⟨[(.bytes ⟨[34,40,63,58,91,94,34,92,92,93,124,92,92,46,41,42,43,34]⟩ 285),(.int (.ofNat 0) 326),(.int (.ofNat 0) 0),.none,.none,(.ref 35),(.int (.ofNat 1) 0)]⟩),⟨[]⟩⟩
noncomputable def ob37 (P : Params) : Obj := ⟨(.type "tuple"),none,(.seq ⟨[(.int (.ofNat 0) 328)]⟩ 0),⟨[]⟩⟩
noncomputable def ob38 (P : Params) : Obj := ⟨(.type "tuple"),none,(.seq ⟨[]⟩ 0),⟨[]⟩⟩
noncomputable def ob39 (P : Params) : Obj := ⟨.none,none,(.fields ⟨[]⟩),⟨[]⟩⟩
noncomputable def ob40 (P : Params) : Obj := ⟨(.type "tuple"),none,(.seq ⟨[(.str ⟨⟨[100,97,116,97]⟩⟩ 332),(.str ⟨⟨[100,101,112,116,104]⟩⟩ 333)]⟩ 0),⟨[]⟩⟩
noncomputable def ob41 (P : Params) : Obj := ⟨(.type "tuple"),none,(.seq ⟨[]⟩ 0),⟨[]⟩⟩
noncomputable def ob42 (P : Params) : Obj := ⟨.none,none,(.func ⟨⟨⟨[95,112,97,114,101,110,95,100,101,112,116,104]⟩⟩,⟨⟨[95,112,97,114,101,110,95,100,101,112,116,104]⟩⟩,(paramsAt 3),(.stmts (bodyAt 3)),(scopeAt 3),0,[],.none,.none,.none,.none,none,.none,.none,0⟩),⟨[]⟩⟩
noncomputable def ob43 (P : Params) : Obj := ⟨(.type "code"),none,(.fields ⟨[(.str ⟨⟨[95,112,97,114,101,110,95,100,101,112,116,104]⟩⟩ 329),(.str ⟨⟨[95,112,97,114,101,110,95,100,101,112,116,104]⟩⟩ 330),(.str ⟨⟨[47,99,108,97,105,109,47,99,117,116,46,112,121]⟩⟩ 331),(.int (.ofNat 4) 0),(.int (.ofNat 2) 0),(.int (.ofNat 0) 0),(.int (.ofNat 0) 0),(.int (.ofNat 3) 0),(.ref 38),(.bool true),(.int (.ofNat 276) 0),(.ref 39),.none,(.ref 40),(.ref 41),(.ref 42),(.int (.ofNat 334) 0),(.int (.ofNat 4) 0),(.str ⟨⟨[47,99,108,97,105,109,47,99,117,116,46,112,121]⟩⟩ 335)]⟩),⟨[]⟩⟩
noncomputable def ob44 (P : Params) : Obj := ⟨(.type "function"),none,(.func ⟨⟨⟨[95,112,97,114,101,110,95,100,101,112,116,104]⟩⟩,⟨⟨[95,112,97,114,101,110,95,100,101,112,116,104]⟩⟩,(paramsAt 3),(.stmts (bodyAt 3)),(scopeAt 3),3,[],(.ref 37),.none,.none,(.str ⟨⟨[99,112,121,51,49,51,46,105,109,97,112,108,105,98]⟩⟩ 282),none,(.ref 43),.none,0⟩),⟨[]⟩⟩
noncomputable def ob45 (P : Params) : Obj := ⟨(.type "tuple"),none,(.seq ⟨[]⟩ 0),⟨[]⟩⟩
noncomputable def ob46 (P : Params) : Obj := ⟨.none,none,(.fields ⟨[]⟩),⟨[]⟩⟩
noncomputable def ob47 (P : Params) : Obj := ⟨(.type "tuple"),none,(.seq ⟨[(.str ⟨⟨[110,117,109]⟩⟩ 340),(.str ⟨⟨[118,97,108]⟩⟩ 341),(.str ⟨⟨[65,80]⟩⟩ 342),(.str ⟨⟨[109,111,100]⟩⟩ 343)]⟩ 0),⟨[]⟩⟩
noncomputable def ob48 (P : Params) : Obj := ⟨(.type "tuple"),none,(.seq ⟨[]⟩ 0),⟨[]⟩⟩
noncomputable def ob49 (P : Params) : Obj := ⟨.none,none,(.func ⟨⟨⟨[73,110,116,50,65,80]⟩⟩,⟨⟨[73,110,116,50,65,80]⟩⟩,(paramsAt 4),(.stmts (bodyAt 4)),(scopeAt 4),0,[],.none,.none,.none,.none,none,.none,.none,0⟩),⟨[]⟩⟩
noncomputable def ob50 (P : Params) : Obj := ⟨(.type "code"),none,(.fields ⟨[(.str ⟨⟨[73,110,116,50,65,80]⟩⟩ 337),(.str ⟨⟨[73,110,116,50,65,80]⟩⟩ 338),(.str ⟨⟨[47,99,108,97,105,109,47,99,117,116,46,112,121]⟩⟩ 339),(.int (.ofNat 7) 0),(.int (.ofNat 1) 0),(.int (.ofNat 0) 0),(.int (.ofNat 0) 0),(.int (.ofNat 3) 0),(.ref 45),(.bool true),(.int (.ofNat 276) 0),(.ref 46),.none,(.ref 47),(.ref 48),(.ref 49),(.int (.ofNat 344) 0),(.int (.ofNat 7) 0),(.str ⟨⟨[47,99,108,97,105,109,47,99,117,116,46,112,121]⟩⟩ 345)]⟩),⟨[]⟩⟩
noncomputable def ob51 (P : Params) : Obj := ⟨(.type "function"),none,(.func ⟨⟨⟨[73,110,116,50,65,80]⟩⟩,⟨⟨[73,110,116,50,65,80]⟩⟩,(paramsAt 4),(.stmts (bodyAt 4)),(scopeAt 4),3,[],.none,.none,.none,(.str ⟨⟨[99,112,121,51,49,51,46,105,109,97,112,108,105,98]⟩⟩ 282),none,(.ref 50),.none,0⟩),⟨[]⟩⟩
noncomputable def ob52 (P : Params) : Obj := ⟨(.type "tuple"),none,(.seq ⟨[]⟩ 0),⟨[]⟩⟩
noncomputable def ob53 (P : Params) : Obj := ⟨.none,none,(.fields ⟨[]⟩),⟨[]⟩⟩
noncomputable def ob54 (P : Params) : Obj := ⟨(.type "tuple"),none,(.seq ⟨[(.str ⟨⟨[97]⟩⟩ 352),(.str ⟨⟨[98]⟩⟩ 353)]⟩ 0),⟨[]⟩⟩
noncomputable def ob55 (P : Params) : Obj := ⟨(.type "tuple"),none,(.seq ⟨[]⟩ 0),⟨[]⟩⟩
noncomputable def ob56 (P : Params) : Obj := ⟨.none,none,(.func ⟨⟨⟨[103,116]⟩⟩,⟨⟨[103,116]⟩⟩,(paramsAt 6),(.stmts (bodyAt 6)),(scopeAt 6),0,[],.none,.none,.none,.none,none,.none,.none,0⟩),⟨[]⟩⟩
noncomputable def ob57 (P : Params) : Obj := ⟨(.type "code"),none,(.fields ⟨[(.str ⟨⟨[103,116]⟩⟩ 349),(.str ⟨⟨[103,116]⟩⟩ 350),(.str ⟨⟨[47,99,108,97,105,109,47,99,117,116,46,112,121]⟩⟩ 351),(.int (.ofNat 16) 0),(.int (.ofNat 2) 0),(.int (.ofNat 0) 0),(.int (.ofNat 0) 0),(.int (.ofNat 3) 0),(.ref 52),(.bool true),(.int (.ofNat 276) 0),(.ref 53),.none,(.ref 54),(.ref 55),(.ref 56),(.int (.ofNat 354) 0),(.int (.ofNat 16) 0),(.str ⟨⟨[47,99,108,97,105,109,47,99,117,116,46,112,121]⟩⟩ 355)]⟩),⟨[]⟩⟩
noncomputable def ob58 (P : Params) : Obj := ⟨(.type "function"),none,(.func ⟨⟨⟨[103,116]⟩⟩,⟨⟨[103,116]⟩⟩,(paramsAt 6),(.stmts (bodyAt 6)),(scopeAt 6),3,[],.none,.none,.none,(.str ⟨⟨[99,112,121,51,49,51,46,111,112,101,114,97,116,111,114]⟩⟩ 347),none,(.ref 57),.none,0⟩),⟨[]⟩⟩
noncomputable def ob59 (P : Params) : Obj := ⟨(.type "tuple"),none,(.seq ⟨[]⟩ 0),⟨[]⟩⟩
noncomputable def ob60 (P : Params) : Obj := ⟨.none,none,(.fields ⟨[]⟩),⟨[]⟩⟩
noncomputable def ob61 (P : Params) : Obj := ⟨(.type "tuple"),none,(.seq ⟨[(.str ⟨⟨[97]⟩⟩ 360),(.str ⟨⟨[98]⟩⟩ 361),(.str ⟨⟨[99,111,117,110,116]⟩⟩ 362),(.str ⟨⟨[105]⟩⟩ 363)]⟩ 0),⟨[]⟩⟩
noncomputable def ob62 (P : Params) : Obj := ⟨(.type "tuple"),none,(.seq ⟨[]⟩ 0),⟨[]⟩⟩
noncomputable def ob63 (P : Params) : Obj := ⟨.none,none,(.func ⟨⟨⟨[99,111,117,110,116,79,102]⟩⟩,⟨⟨[99,111,117,110,116,79,102]⟩⟩,(paramsAt 7),(.stmts (bodyAt 7)),(scopeAt 7),0,[],.none,.none,.none,.none,none,.none,.none,0⟩),⟨[]⟩⟩
noncomputable def ob64 (P : Params) : Obj := ⟨(.type "code"),none,(.fields ⟨[(.str ⟨⟨[99,111,117,110,116,79,102]⟩⟩ 357),(.str ⟨⟨[99,111,117,110,116,79,102]⟩⟩ 358),(.str ⟨⟨[47,99,108,97,105,109,47,99,117,116,46,112,121]⟩⟩ 359),(.int (.ofNat 18) 0),(.int (.ofNat 2) 0),(.int (.ofNat 0) 0),(.int (.ofNat 0) 0),(.int (.ofNat 3) 0),(.ref 59),(.bool true),(.int (.ofNat 276) 0),(.ref 60),.none,(.ref 61),(.ref 62),(.ref 63),(.int (.ofNat 364) 0),(.int (.ofNat 18) 0),(.str ⟨⟨[47,99,108,97,105,109,47,99,117,116,46,112,121]⟩⟩ 365)]⟩),⟨[]⟩⟩
noncomputable def ob65 (P : Params) : Obj := ⟨(.type "function"),none,(.func ⟨⟨⟨[99,111,117,110,116,79,102]⟩⟩,⟨⟨[99,111,117,110,116,79,102]⟩⟩,(paramsAt 7),(.stmts (bodyAt 7)),(scopeAt 7),3,[],.none,.none,.none,(.str ⟨⟨[99,112,121,51,49,51,46,111,112,101,114,97,116,111,114]⟩⟩ 347),none,(.ref 64),.none,0⟩),⟨[]⟩⟩
noncomputable def ob66 (P : Params) : Obj := ⟨(.type "tuple"),none,(.seq ⟨[]⟩ 0),⟨[]⟩⟩
noncomputable def ob67 (P : Params) : Obj := ⟨.none,none,(.fields ⟨[]⟩),⟨[]⟩⟩
noncomputable def ob68 (P : Params) : Obj := ⟨(.type "tuple"),none,(.seq ⟨[(.str ⟨⟨[97]⟩⟩ 370),(.str ⟨⟨[98]⟩⟩ 371),(.str ⟨⟨[105]⟩⟩ 372),(.str ⟨⟨[106]⟩⟩ 373)]⟩ 0),⟨[]⟩⟩
noncomputable def ob69 (P : Params) : Obj := ⟨(.type "tuple"),none,(.seq ⟨[]⟩ 0),⟨[]⟩⟩
noncomputable def ob70 (P : Params) : Obj := ⟨.none,none,(.func ⟨⟨⟨[105,110,100,101,120,79,102]⟩⟩,⟨⟨[105,110,100,101,120,79,102]⟩⟩,(paramsAt 8),(.stmts (bodyAt 8)),(scopeAt 8),0,[],.none,.none,.none,.none,none,.none,.none,0⟩),⟨[]⟩⟩
noncomputable def ob71 (P : Params) : Obj := ⟨(.type "code"),none,(.fields ⟨[(.str ⟨⟨[105,110,100,101,120,79,102]⟩⟩ 367),(.str ⟨⟨[105,110,100,101,120,79,102]⟩⟩ 368),(.str ⟨⟨[47,99,108,97,105,109,47,99,117,116,46,112,121]⟩⟩ 369),(.int (.ofNat 24) 0),(.int (.ofNat 2) 0),(.int (.ofNat 0) 0),(.int (.ofNat 0) 0),(.int (.ofNat 3) 0),(.ref 66),(.bool true),(.int (.ofNat 276) 0),(.ref 67),.none,(.ref 68),(.ref 69),(.ref 70),(.int (.ofNat 374) 0),(.int (.ofNat 24) 0),(.str ⟨⟨[47,99,108,97,105,109,47,99,117,116,46,112,121]⟩⟩ 375)]⟩),⟨[]⟩⟩
noncomputable def ob72 (P : Params) : Obj := ⟨(.type "function"),none,(.func ⟨⟨⟨[105,110,100,101,120,79,102]⟩⟩,⟨⟨[105,110,100,101,120,79,102]⟩⟩,(paramsAt 8),(.stmts (bodyAt 8)),(scopeAt 8),3,[],.none,.none,.none,(.str ⟨⟨[99,112,121,51,49,51,46,111,112,101,114,97,116,111,114]⟩⟩ 347),none,(.ref 71),.none,0⟩),⟨[]⟩⟩
noncomputable def ob73 (P : Params) : Obj := ⟨(.type "tuple"),none,(.seq ⟨[]⟩ 0),⟨[]⟩⟩
noncomputable def ob74 (P : Params) : Obj := ⟨.none,none,(.fields ⟨[]⟩),⟨[]⟩⟩
noncomputable def ob75 (P : Params) : Obj := ⟨(.type "tuple"),none,(.seq ⟨[(.str ⟨⟨[97]⟩⟩ 380),(.str ⟨⟨[98]⟩⟩ 381),(.str ⟨⟨[99]⟩⟩ 382)]⟩ 0),⟨[]⟩⟩
noncomputable def ob76 (P : Params) : Obj := ⟨(.type "tuple"),none,(.seq ⟨[]⟩ 0),⟨[]⟩⟩
noncomputable def ob77 (P : Params) : Obj := ⟨.none,none,(.func ⟨⟨⟨[115,101,116,105,116,101,109]⟩⟩,⟨⟨[115,101,116,105,116,101,109]⟩⟩,(paramsAt 9),(.stmts (bodyAt 9)),(scopeAt 9),0,[],.none,.none,.none,.none,none,.none,.none,0⟩),⟨[]⟩⟩
noncomputable def ob78 (P : Params) : Obj := ⟨(.type "code"),none,(.fields ⟨[(.str ⟨⟨[115,101,116,105,116,101,109]⟩⟩ 377),(.str ⟨⟨[115,101,116,105,116,101,109]⟩⟩ 378),(.str ⟨⟨[47,99,108,97,105,109,47,99,117,116,46,112,121]⟩⟩ 379),(.int (.ofNat 30) 0),(.int (.ofNat 3) 0),(.int (.ofNat 0) 0),(.int (.ofNat 0) 0),(.int (.ofNat 3) 0),(.ref 73),(.bool true),(.int (.ofNat 276) 0),(.ref 74),.none,(.ref 75),(.ref 76),(.ref 77),(.int (.ofNat 383) 0),(.int (.ofNat 30) 0),(.str ⟨⟨[47,99,108,97,105,109,47,99,117,116,46,112,121]⟩⟩ 384)]⟩),⟨[]⟩⟩
noncomputable def ob79 (P : Params) : Obj := ⟨(.type "function"),none,(.func ⟨⟨⟨[115,101,116,105,116,101,109]⟩⟩,⟨⟨[115,101,116,105,116,101,109]⟩⟩,(paramsAt 9),(.stmts (bodyAt 9)),(scopeAt 9),3,[],.none,.none,.none,(.str ⟨⟨[99,112,121,51,49,51,46,111,112,101,114,97,116,111,114]⟩⟩ 347),none,(.ref 78),.none,0⟩),⟨[]⟩⟩
noncomputable def tree_9 (P : Params) : BT := (.node (ob0 P) (.node (ob1 P) (.node (ob3_9 P) (.node (ob7 P) (.node (ob15 P) (.node (ob31 P) (.node (ob63 P) .nil .nil) .nil) (.node (ob47 P) (.node (ob79 P) .nil .nil) .nil)) (.node (ob23 P) (.node (ob39 P) (.node (ob71 P) .nil .nil) .nil) (.node (ob55 P) .nil .nil))) (.node (ob11 P) (.node (ob19 P) (.node (ob35 P) (.node (ob67 P) .nil .nil) .nil) (.node (ob51 P) .nil .nil)) (.node (ob27 P) (.node (ob43 P) (.node (ob75 P) .nil .nil) .nil) (.node (ob59 P) .nil .nil)))) (.node (ob5 P) (.node (ob9 P) (.node (ob17 P) (.node (ob33 P) (.node (ob65 P) .nil .nil) .nil) (.node (ob49 P) .nil .nil)) (.node (ob25 P) (.node (ob41 P) (.node (ob73 P) .nil .nil) .nil) (.node (ob57 P) .nil .nil))) (.node (ob13 P) (.node (ob21 P) (.node (ob37 P) (.node (ob69 P) .nil .nil) .nil) (.node (ob53 P) .nil .nil)) (.node (ob29_9 P) (.node (ob45 P) (.node (ob77 P) .nil .nil) .nil) (.node (ob61 P) .nil .nil))))) (.node (ob2 P) (.node (ob4 P) (.node (ob8 P) (.node (ob16 P) (.node (ob32 P) (.node (ob64 P) .nil .nil) .nil) (.node (ob48 P) .nil .nil)) (.node (ob24 P) (.node (ob40 P) (.node (ob72 P) .nil .nil) .nil) (.node (ob56 P) .nil .nil))) (.node (ob12 P) (.node (ob20 P) (.node (ob36 P) (.node (ob68 P) .nil .nil) .nil) (.node (ob52 P) .nil .nil)) (.node (ob28 P) (.node (ob44 P) (.node (ob76 P) .nil .nil) .nil) (.node (ob60 P) .nil .nil)))) (.node (ob6 P) (.node (ob10 P) (.node (ob18 P) (.node (ob34 P) (.node (ob66 P) .nil .nil) .nil) (.node (ob50 P) .nil .nil)) (.node (ob26 P) (.node (ob42 P) (.node (ob74 P) .nil .nil) .nil) (.node (ob58 P) .nil .nil))) (.node (ob14 P) (.node (ob22 P) (.node (ob38 P) (.node (ob70 P) .nil .nil) .nil) (.node (ob54 P) .nil .nil)) (.node (ob30 P) (.node (ob46 P) (.node (ob78 P) .nil .nil) .nil) (.node (ob62 P) .nil .nil))))))
noncomputable def ob3_14 (P : Params) : Obj := ⟨(.type "dict"),none,(.dict ⟨[⟨kh P ⟨⟨[95,95,110,97,109,101,95,95]⟩⟩,(.str ⟨⟨[95,95,110,97,109,101,95,95]⟩⟩ 165),(.str ⟨⟨[99,112,121,51,49,51,46,115,116,114,105,110,103,112,114,101,112]⟩⟩ 455)⟩,⟨kh P ⟨⟨[95,95,100,111,99,95,95]⟩⟩,(.str ⟨⟨[95,95,100,111,99,95,95]⟩⟩ 166),.none⟩,⟨kh P ⟨⟨[95,95,112,97,99,107,97,103,101,95,95]⟩⟩,(.str ⟨⟨[95,95,112,97,99,107,97,103,101,95,95]⟩⟩ 167),.none⟩,⟨kh P ⟨⟨[95,95,108,111,97,100,101,114,95,95]⟩⟩,(.str ⟨⟨[95,95,108,111,97,100,101,114,95,95]⟩⟩ 168),(.builtin "__main__.__loader__#opaque")⟩,⟨kh P ⟨⟨[95,95,115,112,101,99,95,95]⟩⟩,(.str ⟨⟨[95,95,115,112,101,99,95,95]⟩⟩ 169),.none⟩,⟨kh P ⟨⟨[95,95,97,110,110,111,116,97,116,105,111,110,115,95,95]⟩⟩,(.str ⟨⟨[95,95,97,110,110,111,116,97,116,105,111,110,115,95,95]⟩⟩ 170),(.ref 6)⟩,⟨kh P ⟨⟨[95,95,98,117,105,108,116,105,110,115,95,95]⟩⟩,(.str ⟨⟨[95,95,98,117,105,108,116,105,110,115,95,95]⟩⟩ 171),(.ref 4)⟩,⟨kh P ⟨⟨[95,95,102,105,108,101,95,95]⟩⟩,(.str ⟨⟨[95,95,102,105,108,101,95,95]⟩⟩ 173),(.str ⟨⟨[47,99,108,97,105,109,47,99,117,116,46,112,121]⟩⟩ 172)⟩,⟨kh P ⟨⟨[95,95,99,97,99,104,101,100,95,95]⟩⟩,(.str ⟨⟨[95,95,99,97,99,104,101,100,95,95]⟩⟩ 174),.none⟩,⟨kh P ⟨⟨[95,115,114,101]⟩⟩,(.str ⟨⟨[95,115,114,101]⟩⟩ 275),(.ref 12)⟩,⟨kh P ⟨⟨[95,113,117,111,116,101,100]⟩⟩,(.str ⟨⟨[95,113,117,111,116,101,100]⟩⟩ 327),(.ref 36)⟩,⟨kh P ⟨⟨[95,112,97,114,101,110,95,100,101,112,116,104]⟩⟩,(.str ⟨⟨[95,112,97,114,101,110,95,100,101,112,116,104]⟩⟩ 336),(.ref 44)⟩,⟨kh P ⟨⟨[73,110,116,50,65,80]⟩⟩,(.str ⟨⟨[73,110,116,50,65,80]⟩⟩ 346),(.ref 51)⟩,⟨kh P ⟨⟨[103,116]⟩⟩,(.str ⟨⟨[103,116]⟩⟩ 356),(.ref 58)⟩,⟨kh P ⟨⟨[99,111,117,110,116,79,102]⟩⟩,(.str ⟨⟨[99,111,117,110,116,79,102]⟩⟩ 366),(.ref 65)⟩,⟨kh P ⟨⟨[105,110,100,101,120,79,102]⟩⟩,(.str ⟨⟨[105,110,100,101,120,79,102]⟩⟩ 376),(.ref 72)⟩,⟨kh P ⟨⟨[115,101,116,105,116,101,109]⟩⟩,(.str ⟨⟨[115,101,116,105,116,101,109]⟩⟩ 385),(.ref 79)⟩,⟨kh P ⟨⟨[95,116,119,105,110,95,114,101,95,49]⟩⟩,(.str ⟨⟨[95,116,119,105,110,95,114,101,95,49]⟩⟩ 403),(.ref 84)⟩,⟨kh P ⟨⟨[95,116,119,105,110,95,114,101,95,50]⟩⟩,(.str ⟨⟨[95,116,119,105,110,95,114,101,95,50]⟩⟩ 445),(.ref 89)⟩,⟨kh P ⟨⟨[67,82,76,70]⟩⟩,(.str ⟨⟨[67,82,76,70]⟩⟩ 447),(.str ⟨⟨[13,10]⟩⟩ 446)⟩,⟨kh P ⟨⟨[113,117,111,116,101,100,97,116,97]⟩⟩,(.str ⟨⟨[113,117,111,116,101,100,97,116,97]⟩⟩ 454),(.ref 96)⟩]⟩ 21),⟨[]⟩⟩
noncomputable def ob29_14 (P : Params) : Obj := ⟨.none,none,(.fields ⟨[(.int (.ofNat 4) 0),(.int (.ofNat 0) 0),(.ref 43),(.int (.ofNat 7) 0),(.int (.ofNat 0) 0),(.ref 50),(.int (.ofNat 16) 0),(.int (.ofNat 0) 0),(.ref 57),(.int (.ofNat 18) 0),(.int (.ofNat 0) 0),(.ref 64),(.int (.ofNat 24) 0),(.int (.ofNat 0) 0),(.ref 71),(.int (.ofNat 30) 0),(.int (.ofNat 0) 0),(.ref 78),(.int (.ofNat 36) 0),(.int (.ofNat 0) 0),(.ref 95)]⟩),⟨[]⟩⟩
noncomputable def ob80 (P : Params) : Obj := ⟨(.type "list"),none,(.seq ⟨[(.int (.ofNat 14) 391),(.int (.ofNat 4) 392),(.int (.ofNat 0) 393),(.int (.ofNat 1) 394),(.int (.ofNat 1) 395),(.int (.ofNat 6) 396),(.int (.ofNat 1) 397),(.int (.ofNat 16) 398),(.int (.ofNat 46) 399),(.int (.ofNat 1) 400)]⟩ 0),⟨[]⟩⟩
noncomputable def ob81 (P : Params) : Obj := ⟨(.type "dict"),none,(.dict ⟨[]⟩ 0),⟨[]⟩⟩
noncomputable def ob82 (P : Params) : Obj := ⟨(.type "tuple"),none,(.seq ⟨[.none]⟩ 0),⟨[]⟩⟩
noncomputable def ob83 (P : Params) : Obj := ⟨(.type "tuple"),none,(.seq ⟨[(.int (.ofNat 14) 0),(.int (.ofNat 4) 0),(.int (.ofNat 0) 0),(.int (.ofNat 1) 0),(.int (.ofNat 1) 0),(.int (.ofNat 6) 0),(.int (.ofNat 1) 0),(.int (.ofNat 16) 0),(.int (.ofNat 46) 0),(.int (.ofNat 1) 0)]⟩ 0),⟨[]⟩⟩
noncomputable def ob84 (P : Params) : Obj := ⟨(.type "re.Pattern"),none,(.fields ⟨[(.str ⟨⟨[40,63,109,41,94,92,46]⟩⟩ 389),(.int (.ofNat 40) 402),(.int (.ofNat 0) 0),.none,.none,(.ref 83),(.int (.ofNat 0) 0)]⟩),⟨[]⟩⟩
noncomputable def ob85 (P : Params) : Obj := ⟨(.type "list"),none,(.seq ⟨[(.int (.ofNat 14) 407),(.int (.ofNat 9) 408),(.int (.ofNat 4) 409),(.int (.ofNat 1) 410),(.int (.ofNat 2) 411),(.int (.ofNat 16) 412),(.int (.ofNat 10) 413),(.int (.ofNat 16) 414),(.int (.ofNat 13) 415),(.int (.ofNat 0) 416),(.int (.ofNat 7) 417),(.int (.ofNat 7) 418),(.int (.ofNat 16) 419),(.int (.ofNat 13) 420),(.int (.ofNat 16) 421),(.int (.ofNat 10) 422),(.int (.ofNat 15) 423),(.int (.ofNat 18) 424),(.int (.ofNat 5) 425),(.int (.ofNat 16) 426),(.int (.ofNat 10) 427),(.int (.ofNat 15) 428),(.int (.ofNat 13) 429),(.int (.ofNat 11) 430),(.int (.ofNat 16) 431),(.int (.ofNat 13) 432),(.int (.ofNat 5) 433),(.int (.ofNat 5) 434),(.int (.ofNat 0) 435),(.int (.ofNat 16) 436),(.int (.ofNat 10) 437),(.int (.ofNat 1) 438),(.int (.ofNat 15) 439),(.int (.ofNat 2) 440),(.int (.ofNat 0) 441),(.int (.ofNat 1) 442)]⟩ 0),⟨[]⟩⟩
noncomputable def ob86 (P : Params) : Obj := ⟨(.type "dict"),none,(.dict ⟨[]⟩ 0),⟨[]⟩⟩
noncomputable def ob87 (P : Params) : Obj := ⟨(.type "tuple"),none,(.seq ⟨[.none]⟩ 0),⟨[]⟩⟩
noncomputable def ob88 (P : Params) : Obj := ⟨(.type "tuple"),none,(.seq ⟨[(.int (.ofNat 14) 0),(.int (.ofNat 9) 0),(.int (.ofNat 4) 0),(.int (.ofNat 1) 0),(.int (.ofNat 2) 0),(.int (.ofNat 16) 0),(.int (.ofNat 10) 0),(.int (.ofNat 16) 0),(.int (.ofNat 13) 0),(.int (.ofNat 0) 0),(.int (.ofNat 7) 0),(.int (.ofNat 7) 0),(.int (.ofNat 16) 0),(.int (.ofNat 13) 0),(.int (.ofNat 16) 0),(.int (.ofNat 10) 0),(.int (.ofNat 15) 0),(.int (.ofNat 18) 0),(.int (.ofNat 5) 0),(.int (.ofNat 16) 0),(.int (.ofNat 10) 0),(.int (.ofNat 15) 0),(.int (.ofNat 13) 0),(.int (.ofNat 11) 0),(.int (.ofNat 16) 0),(.int (.ofNat 13) 0),(.int (.ofNat 5) 0),(.int (.ofNat 5) 0),(.int (.ofNat 0) 0),(.int (.ofNat 16) 0),(.int (.ofNat 10) 0),(.int (.ofNat 1) 0),(.int (.ofNat 15) 0),(.int (.ofNat 2) 0),(.int (.ofNat 0) 0),(.int (.ofNat 1) 0)]⟩ 0),⟨[]⟩⟩
noncomputable def ob89 (P : Params) : Obj := ⟨(.type "re.Pattern"),none,(.fields ⟨[(.str ⟨⟨[40,63,58,92,114,92,110,124,92,110,124,92,114,40,63,33,92,110,41,41]⟩⟩ 405),(.int (.ofNat 32) 444),(.int (.ofNat 0) 0),.none,.none,(.ref 88),(.int (.ofNat 0) 0)]⟩),⟨[]⟩⟩
noncomputable def ob90 (P : Params) : Obj := ⟨(.type "tuple"),none,(.seq ⟨[]⟩ 0),⟨[]⟩⟩
noncomputable def ob91 (P : Params) : Obj := ⟨.none,none,(.fields ⟨[]⟩),⟨[]⟩⟩
noncomputable def ob92 (P : Params) : Obj := ⟨(.type "tuple"),none,(.seq ⟨[(.str ⟨⟨[100,97,116,97]⟩⟩ 451)]⟩ 0),⟨[]⟩⟩
noncomputable def ob93 (P : Params) : Obj := ⟨(.type "tuple"),none,(.seq ⟨[]⟩ 0),⟨[]⟩⟩
noncomputable def ob94 (P : Params) : Obj := ⟨.none,none,(.func ⟨⟨⟨[113,117,111,116,101,100,97,116,97]⟩⟩,⟨⟨[113,117,111,116,101,100,97,116,97]⟩⟩,(paramsAt 14),(.stmts (bodyAt 14)),(scopeAt 14),0,[],.none,.none,.none,.none,none,.none,.none,0⟩),⟨[]⟩⟩
noncomputable def ob95 (P : Params) : Obj := ⟨(.type "code"),none,(.fields ⟨[(.str ⟨⟨[113,117,111,116,101,100,97,116,97]⟩⟩ 448),(.str ⟨⟨[113,117,111,116,101,100,97,116,97]⟩⟩ 449),(.str ⟨⟨[47,99,108,97,105,109,47,99,117,116,46,112,121]⟩⟩ 450),(.int (.ofNat 36) 0),(.int (.ofNat 1) 0),(.int (.ofNat 0) 0),(.int (.ofNat 0) 0),(.int (.ofNat 3) 0),(.ref 90),(.bool true),(.int (.ofNat 276) 0),(.ref 91),.none,(.ref 92),(.ref 93),(.ref 94),(.int (.ofNat 452) 0),(.int (.ofNat 36) 0),(.str ⟨⟨[47,99,108,97,105,109,47,99,117,116,46,112,121]⟩⟩ 453)]⟩),⟨[]⟩⟩
noncomputable def ob96 (P : Params) : Obj := ⟨(.type "function"),none,(.func ⟨⟨⟨[113,117,111,116,101,100,97,116,97]⟩⟩,⟨⟨[113,117,111,116,101,100,97,116,97]⟩⟩,(paramsAt 14),(.stmts (bodyAt 14)),(scopeAt 14),3,[],.none,.none,.none,(.str ⟨⟨[99,112,121,51,49,51,46,115,109,116,112,108,105,98]⟩⟩ 386),none,(.ref 95),.none,0⟩),⟨[]⟩⟩
noncomputable def tree_14 (P : Params) : BT := (.node (ob0 P) (.node (ob1 P) (.node (ob3_14 P) (.node (ob7 P) (.node (ob15 P) (.node (ob31 P) (.node (ob63 P) .nil .nil) (.node (ob95 P) .nil .nil)) (.node (ob47 P) (.node (ob79 P) .nil .nil) .nil)) (.node (ob23 P) (.node (ob39 P) (.node (ob71 P) .nil .nil) .nil) (.node (ob55 P) (.node (ob87 P) .nil .nil) .nil))) (.node (ob11 P) (.node (ob19 P) (.node (ob35 P) (.node (ob67 P) .nil .nil) .nil) (.node (ob51 P) (.node (ob83 P) .nil .nil) .nil)) (.node (ob27 P) (.node (ob43 P) (.node (ob75 P) .nil .nil) .nil) (.node (ob59 P) (.node (ob91 P) .nil .nil) .nil)))) (.node (ob5 P) (.node (ob9 P) (.node (ob17 P) (.node (ob33 P) (.node (ob65 P) .nil .nil) .nil) (.node (ob49 P) (.node (ob81 P) .nil .nil) .nil)) (.node (ob25 P) (.node (ob41 P) (.node (ob73 P) .nil .nil) .nil) (.node (ob57 P) (.node (ob89 P) .nil .nil) .nil))) (.node (ob13 P) (.node (ob21 P) (.node (ob37 P) (.node (ob69 P) .nil .nil) .nil) (.node (ob53 P) (.node (ob85 P) .nil .nil) .nil)) (.node (ob29_14 P) (.node (ob45 P) (.node (ob77 P) .nil .nil) .nil) (.node (ob61 P) (.node (ob93 P) .nil .nil) .nil))))) (.node (ob2 P) (.node (ob4 P) (.node (ob8 P) (.node (ob16 P) (.node (ob32 P) (.node (ob64 P) .nil .nil) (.node (ob96 P) .nil .nil)) (.node (ob48 P) (.node (ob80 P) .nil .nil) .nil)) (.node (ob24 P) (.node (ob40 P) (.node (ob72 P) .nil .nil) .nil) (.node (ob56 P) (.node (ob88 P) .nil .nil) .nil))) (.node (ob12 P) (.node (ob20 P) (.node (ob36 P) (.node (ob68 P) .nil .nil) .nil) (.node (ob52 P) (.node (ob84 P) .nil .nil) .nil)) (.node (ob28 P) (.node (ob44 P) (.node (ob76 P) .nil .nil) .nil) (.node (ob60 P) (.node (ob92 P) .nil .nil) .nil)))) (.node (ob6 P) (.node (ob10 P) (.node (ob18 P) (.node (ob34 P) (.node (ob66 P) .nil .nil) .nil) (.node (ob50 P) (.node (ob82 P) .nil .nil) .nil)) (.node (ob26 P) (.node (ob42 P) (.node (ob74 P) .nil .nil) .nil) (.node (ob58 P) (.node (ob90 P) .nil .nil) .nil))) (.node (ob14 P) (.node (ob22 P) (.node (ob38 P) (.node (ob70 P) .nil .nil) .nil) (.node (ob54 P) (.node (ob86 P) .nil .nil) .nil)) (.node (ob30 P) (.node (ob46 P) (.node (ob78 P) .nil .nil) .nil) (.node (ob62 P) (.node (ob94 P) .nil .nil) .nil))))))
noncomputable def ob3_15 (P : Params) : Obj := ⟨(.type "dict"),none,(.dict ⟨[⟨kh P ⟨⟨[95,95,110,97,109,101,95,95]⟩⟩,(.str ⟨⟨[95,95,110,97,109,101,95,95]⟩⟩ 165),(.str ⟨⟨[99,112,121,51,49,51,46,115,116,114,105,110,103,112,114,101,112]⟩⟩ 455)⟩,⟨kh P ⟨⟨[95,95,100,111,99,95,95]⟩⟩,(.str ⟨⟨[95,95,100,111,99,95,95]⟩⟩ 166),.none⟩,⟨kh P ⟨⟨[95,95,112,97,99,107,97,103,101,95,95]⟩⟩,(.str ⟨⟨[95,95,112,97,99,107,97,103,101,95,95]⟩⟩ 167),.none⟩,⟨kh P ⟨⟨[95,95,108,111,97,100,101,114,95,95]⟩⟩,(.str ⟨⟨[95,95,108,111,97,100,101,114,95,95]⟩⟩ 168),(.builtin "__main__.__loader__#opaque")⟩,⟨kh P ⟨⟨[95,95,115,112,101,99,95,95]⟩⟩,(.str ⟨⟨[95,95,115,112,101,99,95,95]⟩⟩ 169),.none⟩,⟨kh P ⟨⟨[95,95,97,110,110,111,116,97,116,105,111,110,115,95,95]⟩⟩,(.str ⟨⟨[95,95,97,110,110,111,116,97,116,105,111,110,115,95,95]⟩⟩ 170),(.ref 6)⟩,⟨kh P ⟨⟨[95,95,98,117,105,108,116,105,110,115,95,95]⟩⟩,(.str ⟨⟨[95,95,98,117,105,108,116,105,110,115,95,95]⟩⟩ 171),(.ref 4)⟩,⟨kh P ⟨⟨[95,95,102,105,108,101,95,95]⟩⟩,(.str ⟨⟨[95,95,102,105,108,101,95,95]⟩⟩ 173),(.str ⟨⟨[47,99,108,97,105,109,47,99,117,116,46,112,121]⟩⟩ 172)⟩,⟨kh P ⟨⟨[95,95,99,97,99,104,101,100,95,95]⟩⟩,(.str ⟨⟨[95,95,99,97,99,104,101,100,95,95]⟩⟩ 174),.none⟩,⟨kh P ⟨⟨[95,115,114,101]⟩⟩,(.str ⟨⟨[95,115,114,101]⟩⟩ 275),(.ref 12)⟩,⟨kh P ⟨⟨[95,113,117,111,116,101,100]⟩⟩,(.str ⟨⟨[95,113,117,111,116,101,100]⟩⟩ 327),(.ref 36)⟩,⟨kh P ⟨⟨[95,112,97,114,101,110,95,100,101,112,116,104]⟩⟩,(.str ⟨⟨[95,112,97,114,101,110,95,100,101,112,116,104]⟩⟩ 336),(.ref 44)⟩,⟨kh P ⟨⟨[73,110,116,50,65,80]⟩⟩,(.str ⟨⟨[73,110,116,50,65,80]⟩⟩ 346),(.ref 51)⟩,⟨kh P ⟨⟨[103,116]⟩⟩,(.str ⟨⟨[103,116]⟩⟩ 356),(.ref 58)⟩,⟨kh P ⟨⟨[99,111,117,110,116,79,102]⟩⟩,(.str ⟨⟨[99,111,117,110,116,79,102]⟩⟩ 366),(.ref 65)⟩,⟨kh P ⟨⟨[105,110,100,101,120,79,102]⟩⟩,(.str ⟨⟨[105,110,100,101,120,79,102]⟩⟩ 376),(.ref 72)⟩,⟨kh P ⟨⟨[115,101,116,105,116,101,109]⟩⟩,(.str ⟨⟨[115,101,116,105,116,101,109]⟩⟩ 385),(.ref 79)⟩,⟨kh P ⟨⟨[95,116,119,105,110,95,114,101,95,49]⟩⟩,(.str ⟨⟨[95,116,119,105,110,95,114,101,95,49]⟩⟩ 403),(.ref 84)⟩,⟨kh P ⟨⟨[95,116,119,105,110,95,114,101,95,50]⟩⟩,(.str ⟨⟨[95,116,119,105,110,95,114,101,95,50]⟩⟩ 445),(.ref 89)⟩,⟨kh P ⟨⟨[67,82,76,70]⟩⟩,(.str ⟨⟨[67,82,76,70]⟩⟩ 447),(.str ⟨⟨[13,10]⟩⟩ 446)⟩,⟨kh P ⟨⟨[113,117,111,116,101,100,97,116,97]⟩⟩,(.str ⟨⟨[113,117,111,116,101,100,97,116,97]⟩⟩ 454),(.ref 96)⟩,⟨kh P ⟨⟨[98,49,95,115,101,116]⟩⟩,(.str ⟨⟨[98,49,95,115,101,116]⟩⟩ 516),(.ref 104)⟩]⟩ 22),⟨[]⟩⟩
noncomputable def ob97 (P : Params) : Obj := ⟨(.type "list"),none,(.seq ⟨[(.int (.ofNat 173) 457),(.int (.ofNat 847) 458),(.int (.ofNat 6150) 459),(.int (.ofNat 6155) 460),(.int (.ofNat 6156) 461),(.int (.ofNat 6157) 462),(.int (.ofNat 8203) 463),(.int (.ofNat 8204) 464),(.int (.ofNat 8205) 465),(.int (.ofNat 8288) 466),(.int (.ofNat 65279) 467)]⟩ 0),⟨[]⟩⟩
noncomputable def ob98 (P : Params) : Obj := ⟨(.type "range"),none,(.fields ⟨[(.int (.ofNat 65024) 468),(.int (.ofNat 65040) 469),(.int (.ofNat 1) 470)]⟩),⟨[]⟩⟩
noncomputable def ob99 (P : Params) : Obj := ⟨(.type "list"),none,(.seq ⟨[(.int (.ofNat 65024) 473),(.int (.ofNat 65025) 474),(.int (.ofNat 65026) 475),(.int (.ofNat 65027) 476),(.int (.ofNat 65028) 477),(.int (.ofNat 65029) 478),(.int (.ofNat 65030) 479),(.int (.ofNat 65031) 480),(.int (.ofNat 65032) 481),(.int (.ofNat 65033) 482),(.int (.ofNat 65034) 483),(.int (.ofNat 65035) 484),(.int (.ofNat 65036) 485),(.int (.ofNat 65037) 486),(.int (.ofNat 65038) 487),(.int (.ofNat 65039) 488)]⟩ 18),⟨[]⟩⟩
noncomputable def ob100 (P : Params) : Obj := ⟨(.type "range_iterator"),none,(.fields ⟨[(.int (.ofNat 65040) 0),(.int (.ofNat 0) 0),(.int (.ofNat 1) 0)]⟩),⟨[]⟩⟩
noncomputable def ob101 (P : Params) : Obj := ⟨(.type "tuple"),none,(.seq ⟨[]⟩ 0),⟨[]⟩⟩
noncomputable def ob102 (P : Params) : Obj := ⟨(.type "StopIteration"),none,(.fields ⟨[(.ref 101),.none,.none,.none,(.bool false),.none]⟩),⟨[]⟩⟩
noncomputable def ob103 (P : Params) : Obj := ⟨(.type "list"),none,(.seq ⟨[(.int (.ofNat 173) 457),(.int (.ofNat 847) 458),(.int (.ofNat 6150) 459),(.int (.ofNat 6155) 460),(.int (.ofNat 6156) 461),(.int (.ofNat 6157) 462),(.int (.ofNat 8203) 463),(.int (.ofNat 8204) 464),(.int (.ofNat 8205) 465),(.int (.ofNat 8288) 466),(.int (.ofNat 65279) 467),(.int (.ofNat 65024) 473),(.int (.ofNat 65025) 474),(.int (.ofNat 65026) 475),(.int (.ofNat 65027) 476),(.int (.ofNat 65028) 477),(.int (.ofNat 65029) 478),(.int (.ofNat 65030) 479),(.int (.ofNat 65031) 480),(.int (.ofNat 65032) 481),(.int (.ofNat 65033) 482),(.int (.ofNat 65034) 483),(.int (.ofNat 65035) 484),(.int (.ofNat 65036) 485),(.int (.ofNat 65037) 486),(.int (.ofNat 65038) 487),(.int (.ofNat 65039) 488)]⟩ 0),⟨[]⟩⟩
noncomputable def ob104 (P : Params) : Obj := ⟨(.type "set"),none,(.set ⟨[((.ofNat 65024),(.int (.ofNat 65024) 473)),((.ofNat 65025),(.int (.ofNat 65025) 474)),((.ofNat 65026),(.int (.ofNat 65026) 475)),((.ofNat 65027),(.int (.ofNat 65027) 476)),((.ofNat 65028),(.int (.ofNat 65028) 477)),((.ofNat 65029),(.int (.ofNat 65029) 478)),((.ofNat 6150),(.int (.ofNat 6150) 459)),((.ofNat 65030),(.int (.ofNat 65030) 479)),((.ofNat 65031),(.int (.ofNat 65031) 480)),((.ofNat 65032),(.int (.ofNat 65032) 481)),((.ofNat 65033),(.int (.ofNat 65033) 482)),((.ofNat 6155),(.int (.ofNat 6155) 460)),((.ofNat 6156),(.int (.ofNat 6156) 461)),((.ofNat 6157),(.int (.ofNat 6157) 462)),((.ofNat 8203),(.int (.ofNat 8203) 463)),((.ofNat 8204),(.int (.ofNat 8204) 464)),((.ofNat 8205),(.int (.ofNat 8205) 465)),((.ofNat 65034),(.int (.ofNat 65034) 483)),((.ofNat 65035),(.int (.ofNat 65035) 484)),((.ofNat 65036),(.int (.ofNat 65036) 485)),((.ofNat 65037),(.int (.ofNat 65037) 486)),((.ofNat 65038),(.int (.ofNat 65038) 487)),((.ofNat 65039),(.int (.ofNat 65039) 488)),((.ofNat 173),(.int (.ofNat 173) 457)),((.ofNat 847),(.int (.ofNat 847) 458)),((.ofNat 8288),(.int (.ofNat 8288) 466)),((.ofNat 65279),(.int (.ofNat 65279) 467))]⟩ 29 ⟨127,⟨[0,1,2,3,4,5,6,7,8,9,10,11,12,13,14,15,16,17,18,19,20,21,22,45,79,96,127]⟩,⟨[]⟩,0,(!P.followText "set-order"),2,true⟩),⟨[]⟩⟩
noncomputable def ob105 (P : Params) : Obj := ⟨(.type "list_iterator"),none,(.fields ⟨[.none,(.int (.ofNat 27) 0)]⟩),⟨[]⟩⟩
noncomputable def ob106 (P : Params) : Obj := ⟨(.type "tuple"),none,(.seq ⟨[]⟩ 0),⟨[]⟩⟩
noncomputable def ob107 (P : Params) : Obj := ⟨(.type "StopIteration"),none,(.fields ⟨[(.ref 106),.none,.none,.none,(.bool false),.none]⟩),⟨[]⟩⟩
noncomputable def tree_15 (P : Params) : BT := (.node (ob0 P) (.node (ob1 P) (.node (ob3_15 P) (.node (ob7 P) (.node (ob15 P) (.node (ob31 P) (.node (ob63 P) .nil .nil) (.node (ob95 P) .nil .nil)) (.node (ob47 P) (.node (ob79 P) .nil .nil) .nil)) (.node (ob23 P) (.node (ob39 P) (.node (ob71 P) .nil .nil) (.node (ob103 P) .nil .nil)) (.node (ob55 P) (.node (ob87 P) .nil .nil) .nil))) (.node (ob11 P) (.node (ob19 P) (.node (ob35 P) (.node (ob67 P) .nil .nil) (.node (ob99 P) .nil .nil)) (.node (ob51 P) (.node (ob83 P) .nil .nil) .nil)) (.node (ob27 P) (.node (ob43 P) (.node (ob75 P) .nil .nil) (.node (ob107 P) .nil .nil)) (.node (ob59 P) (.node (ob91 P) .nil .nil) .nil)))) (.node (ob5 P) (.node (ob9 P) (.node (ob17 P) (.node (ob33 P) (.node (ob65 P) .nil .nil) (.node (ob97 P) .nil .nil)) (.node (ob49 P) (.node (ob81 P) .nil .nil) .nil)) (.node (ob25 P) (.node (ob41 P) (.node (ob73 P) .nil .nil) (.node (ob105 P) .nil .nil)) (.node (ob57 P) (.node (ob89 P) .nil .nil) .nil))) (.node (ob13 P) (.node (ob21 P) (.node (ob37 P) (.node (ob69 P) .nil .nil) (.node (ob101 P) .nil .nil)) (.node (ob53 P) (.node (ob85 P) .nil .nil) .nil)) (.node (ob29_14 P) (.node (ob45 P) (.node (ob77 P) .nil .nil) .nil) (.node (ob61 P) (.node (ob93 P) .nil .nil) .nil))))) (.node (ob2 P) (.node (ob4 P) (.node (ob8 P) (.node (ob16 P) (.node (ob32 P) (.node (ob64 P) .nil .nil) (.node (ob96 P) .nil .nil)) (.node (ob48 P) (.node (ob80 P) .nil .nil) .nil)) (.node (ob24 P) (.node (ob40 P) (.node (ob72 P) .nil .nil) (.node (ob104 P) .nil .nil)) (.node (ob56 P) (.node (ob88 P) .nil .nil) .nil))) (.node (ob12 P) (.node (ob20 P) (.node (ob36 P) (.node (ob68 P) .nil .nil) (.node (ob100 P) .nil .nil)) (.node (ob52 P) (.node (ob84 P) .nil .nil) .nil)) (.node (ob28 P) (.node (ob44 P) (.node (ob76 P) .nil .nil) .nil) (.node (ob60 P) (.node (ob92 P) .nil .nil) .nil)))) (.node (ob6 P) (.node (ob10 P) (.node (ob18 P) (.node (ob34 P) (.node (ob66 P) .nil .nil) (.node (ob98 P) .nil .nil)) (.node (ob50 P) (.node (ob82 P) .nil .nil) .nil)) (.node (ob26 P) (.node (ob42 P) (.node (ob74 P) .nil .nil) (.node (ob106 P) .nil .nil)) (.node (ob58 P) (.node (ob90 P) .nil .nil) .nil))) (.node (ob14 P) (.node (ob22 P) (.node (ob38 P) (.node (ob70 P) .nil .nil) (.node (ob102 P) .nil .nil)) (.node (ob54 P) (.node (ob86 P) .nil .nil) .nil)) (.node (ob30 P) (.node (ob46 P) (.node (ob78 P) .nil .nil) .nil) (.node (ob62 P) (.node (ob94 P) .nil .nil) .nil))))))
noncomputable def ob3_16 (P : Params) : Obj := ⟨(.type "dict"),none,(.dict ⟨[⟨kh P ⟨⟨[95,95,110,97,109,101,95,95]⟩⟩,(.str ⟨⟨[95,95,110,97,109,101,95,95]⟩⟩ 165),(.str ⟨⟨[99,112,121,51,49,51,46,115,116,114,105,110,103,112,114,101,112]⟩⟩ 455)⟩,⟨kh P ⟨⟨[95,95,100,111,99,95,95]⟩⟩,(.str ⟨⟨[95,95,100,111,99,95,95]⟩⟩ 166),.none⟩,⟨kh P ⟨⟨[95,95,112,97,99,107,97,103,101,95,95]⟩⟩,(.str ⟨⟨[95,95,112,97,99,107,97,103,101,95,95]⟩⟩ 167),.none⟩,⟨kh P ⟨⟨[95,95,108,111,97,100,101,114,95,95]⟩⟩,(.str ⟨⟨[95,95,108,111,97,100,101,114,95,95]⟩⟩ 168),(.builtin "__main__.__loader__#opaque")⟩,⟨kh P ⟨⟨[95,95,115,112,101,99,95,95]⟩⟩,(.str ⟨⟨[95,95,115,112,101,99,95,95]⟩⟩ 169),.none⟩,⟨kh P ⟨⟨[95,95,97,110,110,111,116,97,116,105,111,110,115,95,95]⟩⟩,(.str ⟨⟨[95,95,97,110,110,111,116,97,116,105,111,110,115,95,95]⟩⟩ 170),(.ref 6)⟩,⟨kh P ⟨⟨[95,95,98,117,105,108,116,105,110,115,95,95]⟩⟩,(.str ⟨⟨[95,95,98,117,105,108,116,105,110,115,95,95]⟩⟩ 171),(.ref 4)⟩,⟨kh P ⟨⟨[95,95,102,105,108,101,95,95]⟩⟩,(.str ⟨⟨[95,95,102,105,108,101,95,95]⟩⟩ 173),(.str ⟨⟨[47,99,108,97,105,109,47,99,117,116,46,112,121]⟩⟩ 172)⟩,⟨kh P ⟨⟨[95,95,99,97,99,104,101,100,95,95]⟩⟩,(.str ⟨⟨[95,95,99,97,99,104,101,100,95,95]⟩⟩ 174),.none⟩,⟨kh P ⟨⟨[95,115,114,101]⟩⟩,(.str ⟨⟨[95,115,114,101]⟩⟩ 275),(.ref 12)⟩,⟨kh P ⟨⟨[95,113,117,111,116,101,100]⟩⟩,(.str ⟨⟨[95,113,117,111,116,101,100]⟩⟩ 327),(.ref 36)⟩,⟨kh P ⟨⟨[95,112,97,114,101,110,95,100,101,112,116,104]⟩⟩,(.str ⟨⟨[95,112,97,114,101,110,95,100,101,112,116,104]⟩⟩ 336),(.ref 44)⟩,⟨kh P ⟨⟨[73,110,116,50,65,80]⟩⟩,(.str ⟨⟨[73,110,116,50,65,80]⟩⟩ 346),(.ref 51)⟩,⟨kh P ⟨⟨[103,116]⟩⟩,(.str ⟨⟨[103,116]⟩⟩ 356),(.ref 58)⟩,⟨kh P ⟨⟨[99,111,117,110,116,79,102]⟩⟩,(.str ⟨⟨[99,111,117,110,116,79,102]⟩⟩ 366),(.ref 65)⟩,⟨kh P ⟨⟨[105,110,100,101,120,79,102]⟩⟩,(.str ⟨⟨[105,110,100,101,120,79,102]⟩⟩ 376),(.ref 72)⟩,⟨kh P ⟨⟨[115,101,116,105,116,101,109]⟩⟩,(.str ⟨⟨[115,101,116,105,116,101,109]⟩⟩ 385),(.ref 79)⟩,⟨kh P ⟨⟨[95,116,119,105,110,95,114,101,95,49]⟩⟩,(.str ⟨⟨[95,116,119,105,110,95,114,101,95,49]⟩⟩ 403),(.ref 84)⟩,⟨kh P ⟨⟨[95,116,119,105,110,95,114,101,95,50]⟩⟩,(.str ⟨⟨[95,116,119,105,110,95,114,101,95,50]⟩⟩ 445),(.ref 89)⟩,⟨kh P ⟨⟨[67,82,76,70]⟩⟩,(.str ⟨⟨[67,82,76,70]⟩⟩ 447),(.str ⟨⟨[13,10]⟩⟩ 446)⟩,⟨kh P ⟨⟨[113,117,111,116,101,100,97,116,97]⟩⟩,(.str ⟨⟨[113,117,111,116,101,100,97,116,97]⟩⟩ 454),(.ref 96)⟩,⟨kh P ⟨⟨[98,49,95,115,101,116]⟩⟩,(.str ⟨⟨[98,49,95,115,101,116]⟩⟩ 516),(.ref 104)⟩,⟨kh P ⟨⟨[105,110,95,116,97,98,108,101,95,98,49]⟩⟩,(.str ⟨⟨[105,110,95,116,97,98,108,101,95,98,49]⟩⟩ 523),(.ref 114)⟩]⟩ 23),⟨[]⟩⟩
noncomputable def ob29_16 (P : Params) : Obj := ⟨.none,none,(.fields ⟨[(.int (.ofNat 4) 0),(.int (.ofNat 0) 0),(.ref 43),(.int (.ofNat 7) 0),(.int (.ofNat 0) 0),(.ref 50),(.int (.ofNat 16) 0),(.int (.ofNat 0) 0),(.ref 57),(.int (.ofNat 18) 0),(.int (.ofNat 0) 0),(.ref 64),(.int (.ofNat 24) 0),(.int (.ofNat 0) 0),(.ref 71),(.int (.ofNat 30) 0),(.int (.ofNat 0) 0),(.ref 78),(.int (.ofNat 36) 0),(.int (.ofNat 0) 0),(.ref 95),(.int (.ofNat 40) 0),(.int (.ofNat 0) 0),(.ref 113)]⟩),⟨[]⟩⟩
noncomputable def ob108 (P : Params) : Obj := ⟨(.type "tuple"),none,(.seq ⟨[]⟩ 0),⟨[]⟩⟩
noncomputable def ob109 (P : Params) : Obj := ⟨.none,none,(.fields ⟨[]⟩),⟨[]⟩⟩
noncomputable def ob110 (P : Params) : Obj := ⟨(.type "tuple"),none,(.seq ⟨[(.str ⟨⟨[99,111,100,101]⟩⟩ 520)]⟩ 0),⟨[]⟩⟩
noncomputable def ob111 (P : Params) : Obj := ⟨(.type "tuple"),none,(.seq ⟨[]⟩ 0),⟨[]⟩⟩
noncomputable def ob112 (P : Params) : Obj := ⟨.none,none,(.func ⟨⟨⟨[105,110,95,116,97,98,108,101,95,98,49]⟩⟩,⟨⟨[105,110,95,116,97,98,108,101,95,98,49]⟩⟩,(paramsAt 17),(.stmts (bodyAt 17)),(scopeAt 17),0,[],.none,.none,.none,.none,none,.none,.none,0⟩),⟨[]⟩⟩
noncomputable def ob113 (P : Params) : Obj := ⟨(.type "code"),none,(.fields ⟨[(.str ⟨⟨[105,110,95,116,97,98,108,101,95,98,49]⟩⟩ 517),(.str ⟨⟨[105,110,95,116,97,98,108,101,95,98,49]⟩⟩ 518),(.str ⟨⟨[47,99,108,97,105,109,47,99,117,116,46,112,121]⟩⟩ 519),(.int (.ofNat 40) 0),(.int (.ofNat 1) 0),(.int (.ofNat 0) 0),(.int (.ofNat 0) 0),(.int (.ofNat 3) 0),(.ref 108),(.bool true),(.int (.ofNat 276) 0),(.ref 109),.none,(.ref 110),(.ref 111),(.ref 112),(.int (.ofNat 521) 0),(.int (.ofNat 40) 0),(.str ⟨⟨[47,99,108,97,105,109,47,99,117,116,46,112,121]⟩⟩ 522)]⟩),⟨[]⟩⟩
noncomputable def ob114 (P : Params) : Obj := ⟨(.type "function"),none,(.func ⟨⟨⟨[105,110,95,116,97,98,108,101,95,98,49]⟩⟩,⟨⟨[105,110,95,116,97,98,108,101,95,98,49]⟩⟩,(paramsAt 17),(.stmts (bodyAt 17)),(scopeAt 17),3,[],.none,.none,.none,(.str ⟨⟨[99,112,121,51,49,51,46,115,116,114,105,110,103,112,114,101,112]⟩⟩ 455),none,(.ref 113),.none,0⟩),⟨[]⟩⟩
noncomputable def tree_16 (P : Params) : BT := (.node (ob0 P) (.node (ob1 P) (.node (ob3_16 P) (.node (ob7 P) (.node (ob15 P) (.node (ob31 P) (.node (ob63 P) .nil .nil) (.node (ob95 P) .nil .nil)) (.node (ob47 P) (.node (ob79 P) .nil .nil) (.node (ob111 P) .nil .nil))) (.node (ob23 P) (.node (ob39 P) (.node (ob71 P) .nil .nil) (.node (ob103 P) .nil .nil)) (.node (ob55 P) (.node (ob87 P) .nil .nil) .nil))) (.node (ob11 P) (.node (ob19 P) (.node (ob35 P) (.node (ob67 P) .nil .nil) (.node (ob99 P) .nil .nil)) (.node (ob51 P) (.node (ob83 P) .nil .nil) .nil)) (.node (ob27 P) (.node (ob43 P) (.node (ob75 P) .nil .nil) (.node (ob107 P) .nil .nil)) (.node (ob59 P) (.node (ob91 P) .nil .nil) .nil)))) (.node (ob5 P) (.node (ob9 P) (.node (ob17 P) (.node (ob33 P) (.node (ob65 P) .nil .nil) (.node (ob97 P) .nil .nil)) (.node (ob49 P) (.node (ob81 P) .nil .nil) (.node (ob113 P) .nil .nil))) (.node (ob25 P) (.node (ob41 P) (.node (ob73 P) .nil .nil) (.node (ob105 P) .nil .nil)) (.node (ob57 P) (.node (ob89 P) .nil .nil) .nil))) (.node (ob13 P) (.node (ob21 P) (.node (ob37 P) (.node (ob69 P) .nil .nil) (.node (ob101 P) .nil .nil)) (.node (ob53 P) (.node (ob85 P) .nil .nil) .nil)) (.node (ob29_16 P) (.node (ob45 P) (.node (ob77 P) .nil .nil) (.node (ob109 P) .nil .nil)) (.node (ob61 P) (.node (ob93 P) .nil .nil) .nil))))) (.node (ob2 P) (.node (ob4 P) (.node (ob8 P) (.node (ob16 P) (.node (ob32 P) (.node (ob64 P) .nil .nil) (.node (ob96 P) .nil .nil)) (.node (ob48 P) (.node (ob80 P) .nil .nil) (.node (ob112 P) .nil .nil))) (.node (ob24 P) (.node (ob40 P) (.node (ob72 P) .nil .nil) (.node (ob104 P) .nil .nil)) (.node (ob56 P) (.node (ob88 P) .nil .nil) .nil))) (.node (ob12 P) (.node (ob20 P) (.node (ob36 P) (.node (ob68 P) .nil .nil) (.node (ob100 P) .nil .nil)) (.node (ob52 P) (.node (ob84 P) .nil .nil) .nil)) (.node (ob28 P) (.node (ob44 P) (.node (ob76 P) .nil .nil) (.node (ob108 P) .nil .nil)) (.node (ob60 P) (.node (ob92 P) .nil .nil) .nil)))) (.node (ob6 P) (.node (ob10 P) (.node (ob18 P) (.node (ob34 P) (.node (ob66 P) .nil .nil) (.node (ob98 P) .nil .nil)) (.node (ob50 P) (.node (ob82 P) .nil .nil) (.node (ob114 P) .nil .nil))) (.node (ob26 P) (.node (ob42 P) (.node (ob74 P) .nil .nil) (.node (ob106 P) .nil .nil)) (.node (ob58 P) (.node (ob90 P) .nil .nil) .nil))) (.node (ob14 P) (.node (ob22 P) (.node (ob38 P) (.node (ob70 P) .nil .nil) (.node (ob102 P) .nil .nil)) (.node (ob54 P) (.node (ob86 P) .nil .nil) .nil)) (.node (ob30 P) (.node (ob46 P) (.node (ob78 P) .nil .nil) (.node (ob110 P) .nil .nil)) (.node (ob62 P) (.node (ob94 P) .nil .nil) .nil))))))
noncomputable def ob3_17 (P : Params) : Obj := ⟨(.type "dict"),none,(.dict ⟨[⟨kh P ⟨⟨[95,95,110,97,109,101,95,95]⟩⟩,(.str ⟨⟨[95,95,110,97,109,101,95,95]⟩⟩ 165),(.str ⟨⟨[99,112,121,51,49,51,46,115,116,114,105,110,103,112,114,101,112]⟩⟩ 455)⟩,⟨kh P ⟨⟨[95,95,100,111,99,95,95]⟩⟩,(.str ⟨⟨[95,95,100,111,99,95,95]⟩⟩ 166),.none⟩,⟨kh P ⟨⟨[95,95,112,97,99,107,97,103,101,95,95]⟩⟩,(.str ⟨⟨[95,95,112,97,99,107,97,103,101,95,95]⟩⟩ 167),.none⟩,⟨kh P ⟨⟨[95,95,108,111,97,100,101,114,95,95]⟩⟩,(.str ⟨⟨[95,95,108,111,97,100,101,114,95,95]⟩⟩ 168),(.builtin "__main__.__loader__#opaque")⟩,⟨kh P ⟨⟨[95,95,115,112,101,99,95,95]⟩⟩,(.str ⟨⟨[95,95,115,112,101,99,95,95]⟩⟩ 169),.none⟩,⟨kh P ⟨⟨[95,95,97,110,110,111,116,97,116,105,111,110,115,95,95]⟩⟩,(.str ⟨⟨[95,95,97,110,110,111,116,97,116,105,111,110,115,95,95]⟩⟩ 170),(.ref 6)⟩,⟨kh P ⟨⟨[95,95,98,117,105,108,116,105,110,115,95,95]⟩⟩,(.str ⟨⟨[95,95,98,117,105,108,116,105,110,115,95,95]⟩⟩ 171),(.ref 4)⟩,⟨kh P ⟨⟨[95,95,102,105,108,101,95,95]⟩⟩,(.str ⟨⟨[95,95,102,105,108,101,95,95]⟩⟩ 173),(.str ⟨⟨[47,99,108,97,105,109,47,99,117,116,46,112,121]⟩⟩ 172)⟩,⟨kh P ⟨⟨[95,95,99,97,99,104,101,100,95,95]⟩⟩,(.str ⟨⟨[95,95,99,97,99,104,101,100,95,95]⟩⟩ 174),.none⟩,⟨kh P ⟨⟨[95,115,114,101]⟩⟩,(.str ⟨⟨[95,115,114,101]⟩⟩ 275),(.ref 12)⟩,⟨kh P ⟨⟨[95,113,117,111,116,101,100]⟩⟩,(.str ⟨⟨[95,113,117,111,116,101,100]⟩⟩ 327),(.ref 36)⟩,⟨kh P ⟨⟨[95,112,97,114,101,110,95,100,101,112,116,104]⟩⟩,(.str ⟨⟨[95,112,97,114,101,110,95,100,101,112,116,104]⟩⟩ 336),(.ref 44)⟩,⟨kh P ⟨⟨[73,110,116,50,65,80]⟩⟩,(.str ⟨⟨[73,110,116,50,65,80]⟩⟩ 346),(.ref 51)⟩,⟨kh P ⟨⟨[103,116]⟩⟩,(.str ⟨⟨[103,116]⟩⟩ 356),(.ref 58)⟩,⟨kh P ⟨⟨[99,111,117,110,116,79,102]⟩⟩,(.str ⟨⟨[99,111,117,110,116,79,102]⟩⟩ 366),(.ref 65)⟩,⟨kh P ⟨⟨[105,110,100,101,120,79,102]⟩⟩,(.str ⟨⟨[105,110,100,101,120,79,102]⟩⟩ 376),(.ref 72)⟩,⟨kh P ⟨⟨[115,101,116,105,116,101,109]⟩⟩,(.str ⟨⟨[115,101,116,105,116,101,109]⟩⟩ 385),(.ref 79)⟩,⟨kh P ⟨⟨[95,116,119,105,110,95,114,101,95,49]⟩⟩,(.str ⟨⟨[95,116,119,105,110,95,114,101,95,49]⟩⟩ 403),(.ref 84)⟩,⟨kh P ⟨⟨[95,116,119,105,110,95,114,101,95,50]⟩⟩,(.str ⟨⟨[95,116,119,105,110,95,114,101,95,50]⟩⟩ 445),(.ref 89)⟩,⟨kh P ⟨⟨[67,82,76,70]⟩⟩,(.str ⟨⟨[67,82,76,70]⟩⟩ 447),(.str ⟨⟨[13,10]⟩⟩ 446)⟩,⟨kh P ⟨⟨[113,117,111,116,101,100,97,116,97]⟩⟩,(.str ⟨⟨[113,117,111,116,101,100,97,116,97]⟩⟩ 454),(.ref 96)⟩,⟨kh P ⟨⟨[98,49,95,115,101,116]⟩⟩,(.str ⟨⟨[98,49,95,115,101,116]⟩⟩ 516),(.ref 104)⟩,⟨kh P ⟨⟨[105,110,95,116,97,98,108,101,95,98,49]⟩⟩,(.str ⟨⟨[105,110,95,116,97,98,108,101,95,98,49]⟩⟩ 523),(.ref 114)⟩,⟨kh P ⟨⟨[98,51,95,101,120,99,101,112,116,105,111,110,115]⟩⟩,(.str ⟨⟨[98,51,95,101,120,99,101,112,116,105,111,110,115]⟩⟩ 2474),(.ref 115)⟩]⟩ 24),⟨[]⟩⟩
noncomputable def tree_17 (P : Params) : BT := (.node (ob0 P) (.node (ob1 P) (.node (ob3_17 P) (.node (ob7 P) (.node (ob15 P) (.node (ob31 P) (.node (ob63 P) (.node (ob127 P) .nil .nil) .nil) (.node (ob95 P) .nil .nil)) (.node (ob47 P) (.node (ob79 P) (.node (ob143 P) .nil .nil) .nil) (.node (ob111 P) .nil .nil))) (.node (ob23 P) (.node (ob39 P) (.node (ob71 P) (.node (ob135 P) .nil .nil) .nil) (.node (ob103 P) .nil .nil)) (.node (ob55 P) (.node (ob87 P) (.node (ob151 P) .nil .nil) .nil) (.node (ob119 P) .nil .nil)))) (.node (ob11 P) (.node (ob19 P) (.node (ob35 P) (.node (ob67 P) (.node (ob131 P) .nil .nil) .nil) (.node (ob99 P) .nil .nil)) (.node (ob51 P) (.node (ob83 P) (.node (ob147 P) .nil .nil) .nil) (.node (ob115 P) .nil .nil))) (.node (ob27 P) (.node (ob43 P) (.node (ob75 P) (.node (ob139 P) .nil .nil) .nil) (.node (ob107 P) .nil .nil)) (.node (ob59 P) (.node (ob91 P) .nil .nil) (.node (ob123 P) .nil .nil))))) (.node (ob5 P) (.node (ob9 P) (.node (ob17 P) (.node (ob33 P) (.node (ob65 P) (.node (ob129 P) .nil .nil) .nil) (.node (ob97 P) .nil .nil)) (.node (ob49 P) (.node (ob81 P) (.node (ob145 P) .nil .nil) .nil) (.node (ob113 P) .nil .nil))) (.node (ob25 P) (.node (ob41 P) (.node (ob73 P) (.node (ob137 P) .nil .nil) .nil) (.node (ob105 P) .nil .nil)) (.node (ob57 P) (.node (ob89 P) (.node (ob153 P) .nil .nil) .nil) (.node (ob121 P) .nil .nil)))) (.node (ob13 P) (.node (ob21 P) (.node (ob37 P) (.node (ob69 P) (.node (ob133 P) .nil .nil) .nil) (.node (ob101 P) .nil .nil)) (.node (ob53 P) (.node (ob85 P) (.node (ob149 P) .nil .nil) .nil) (.node (ob117 P) .nil .nil))) (.node (ob29_16 P) (.node (ob45 P) (.node (ob77 P) (.node (ob141 P) .nil .nil) .nil) (.node (ob109 P) .nil .nil)) (.node (ob61 P) (.node (ob93 P) .nil .nil) (.node (ob125 P) .nil .nil)))))) (.node (ob2 P) (.node (ob4 P) (.node (ob8 P) (.node (ob16 P) (.node (ob32 P) (.node (ob64 P) (.node (ob128 P) .nil .nil) .nil) (.node (ob96 P) .nil .nil)) (.node (ob48 P) (.node (ob80 P) (.node (ob144 P) .nil .nil) .nil) (.node (ob112 P) .nil .nil))) (.node (ob24 P) (.node (ob40 P) (.node (ob72 P) (.node (ob136 P) .nil .nil) .nil) (.node (ob104 P) .nil .nil)) (.node (ob56 P) (.node (ob88 P) (.node (ob152 P) .nil .nil) .nil) (.node (ob120 P) .nil .nil)))) (.node (ob12 P) (.node (ob20 P) (.node (ob36 P) (.node (ob68 P) (.node (ob132 P) .nil .nil) .nil) (.node (ob100 P) .nil .nil)) (.node (ob52 P) (.node (ob84 P) (.node (ob148 P) .nil .nil) .nil) (.node (ob116 P) .nil .nil))) (.node (ob28 P) (.node (ob44 P) (.node (ob76 P) (.node (ob140 P) .nil .nil) .nil) (.node (ob108 P) .nil .nil)) (.node (ob60 P) (.node (ob92 P) .nil .nil) (.node (ob124 P) .nil .nil))))) (.node (ob6 P) (.node (ob10 P) (.node (ob18 P) (.node (ob34 P) (.node (ob66 P) (.node (ob130 P) .nil .nil) .nil) (.node (ob98 P) .nil .nil)) (.node (ob50 P) (.node (ob82 P) (.node (ob146 P) .nil .nil) .nil) (.node (ob114 P) .nil .nil))) (.node (ob26 P) (.node (ob42 P) (.node (ob74 P) (.node (ob138 P) .nil .nil) .nil) (.node (ob106 P) .nil .nil)) (.node (ob58 P) (.node (ob90 P) .nil .nil) (.node (ob122 P) .nil .nil)))) (.node (ob14 P) (.node (ob22 P) (.node (ob38 P) (.node (ob70 P) (.node (ob134 P) .nil .nil) .nil) (.node (ob102 P) .nil .nil)) (.node (ob54 P) (.node (ob86 P) (.node (ob150 P) .nil .nil) .nil) (.node (ob118 P) .nil .nil))) (.node (ob30 P) (.node (ob46 P) (.node (ob78 P) (.node (ob142 P) .nil .nil) .nil) (.node (ob110 P) .nil .nil)) (.node (ob62 P) (.node (ob94 P) .nil .nil) (.node (ob126 P) .nil .nil)))))))
noncomputable def ob3_28 (P : Params) : Obj := ⟨(.type "dict"),none,(.dict ⟨[⟨kh P ⟨⟨[95,95,110,97,109,101,95,95]⟩⟩,(.str ⟨⟨[95,95,110,97,109,101,95,95]⟩⟩ 165),(.str ⟨⟨[108,97,119,95,119,106,48,48,52,53,95,48,49]⟩⟩ 2483)⟩,⟨kh P ⟨⟨[95,95,100,111,99,95,95]⟩⟩,(.str ⟨⟨[95,95,100,111,99,95,95]⟩⟩ 166),.none⟩,⟨kh P ⟨⟨[95,95,112,97,99,107,97,103,101,95,95]⟩⟩,(.str ⟨⟨[95,95,112,97,99,107,97,103,101,95,95]⟩⟩ 167),.none⟩,⟨kh P ⟨⟨[95,95,108,111,97,100,101,114,95,95]⟩⟩,(.str ⟨⟨[95,95,108,111,97,100,101,114,95,95]⟩⟩ 168),(.builtin "__main__.__loader__#opaque")⟩,⟨kh P ⟨⟨[95,95,115,112,101,99,95,95]⟩⟩,(.str ⟨⟨[95,95,115,112,101,99,95,95]⟩⟩ 169),.none⟩,⟨kh P ⟨⟨[95,95,97,110,110,111,116,97,116,105,111,110,115,95,95]⟩⟩,(.str ⟨⟨[95,95,97,110,110,111,116,97,116,105,111,110,115,95,95]⟩⟩ 170),(.ref 6)⟩,⟨kh P ⟨⟨[95,95,98,117,105,108,116,105,110,115,95,95]⟩⟩,(.str ⟨⟨[95,95,98,117,105,108,116,105,110,115,95,95]⟩⟩ 171),(.ref 4)⟩,⟨kh P ⟨⟨[95,95,102,105,108,101,95,95]⟩⟩,(.str ⟨⟨[95,95,102,105,108,101,95,95]⟩⟩ 173),(.str ⟨⟨[47,99,108,97,105,109,47,99,117,116,46,112,121]⟩⟩ 172)⟩,⟨kh P ⟨⟨[95,95,99,97,99,104,101,100,95,95]⟩⟩,(.str ⟨⟨[95,95,99,97,99,104,101,100,95,95]⟩⟩ 174),.none⟩,⟨kh P ⟨⟨[95,115,114,101]⟩⟩,(.str ⟨⟨[95,115,114,101]⟩⟩ 275),(.ref 12)⟩,⟨kh P ⟨⟨[95,113,117,111,116,101,100]⟩⟩,(.str ⟨⟨[95,113,117,111,116,101,100]⟩⟩ 327),(.ref 36)⟩,⟨kh P ⟨⟨[95,112,97,114,101,110,95,100,101,112,116,104]⟩⟩,(.str ⟨⟨[95,112,97,114,101,110,95,100,101,112,116,104]⟩⟩ 336),(.ref 44)⟩,⟨kh P ⟨⟨[73,110,116,50,65,80]⟩⟩,(.str ⟨⟨[73,110,116,50,65,80]⟩⟩ 346),(.ref 51)⟩,⟨kh P ⟨⟨[103,116]⟩⟩,(.str ⟨⟨[103,116]⟩⟩ 356),(.ref 58)⟩,⟨kh P ⟨⟨[99,111,117,110,116,79,102]⟩⟩,(.str ⟨⟨[99,111,117,110,116,79,102]⟩⟩ 366),(.ref 65)⟩,⟨kh P ⟨⟨[105,110,100,101,120,79,102]⟩⟩,(.str ⟨⟨[105,110,100,101,120,79,102]⟩⟩ 376),(.ref 72)⟩,⟨kh P ⟨⟨[115,101,116,105,116,101,109]⟩⟩,(.str ⟨⟨[115,101,116,105,116,101,109]⟩⟩ 385),(.ref 79)⟩,⟨kh P ⟨⟨[95,116,119,105,110,95,114,101,95,49]⟩⟩,(.str ⟨⟨[95,116,119,105,110,95,114,101,95,49]⟩⟩ 403),(.ref 84)⟩,⟨kh P ⟨⟨[95,116,119,105,110,95,114,101,95,50]⟩⟩,(.str ⟨⟨[95,116,119,105,110,95,114,101,95,50]⟩⟩ 445),(.ref 89)⟩,⟨kh P ⟨⟨[67,82,76,70]⟩⟩,(.str ⟨⟨[67,82,76,70]⟩⟩ 447),(.str ⟨⟨[13,10]⟩⟩ 446)⟩,⟨kh P ⟨⟨[113,117,111,116,101,100,97,116,97]⟩⟩,(.str ⟨⟨[113,117,111,116,101,100,97,116,97]⟩⟩ 454),(.ref 96)⟩,⟨kh P ⟨⟨[98,49,95,115,101,116]⟩⟩,(.str ⟨⟨[98,49,95,115,101,116]⟩⟩ 516),(.ref 104)⟩,⟨kh P ⟨⟨[105,110,95,116,97,98,108,101,95,98,49]⟩⟩,(.str ⟨⟨[105,110,95,116,97,98,108,101,95,98,49]⟩⟩ 523),(.ref 114)⟩,⟨kh P ⟨⟨[98,51,95,101,120,99,101,112,116,105,111,110,115]⟩⟩,(.str ⟨⟨[98,51,95,101,120,99,101,112,116,105,111,110,115]⟩⟩ 2474),(.ref 115)⟩,⟨kh P ⟨⟨[109,97,112,95,116,97,98,108,101,95,98,51]⟩⟩,(.str ⟨⟨[109,97,112,95,116,97,98,108,101,95,98,51]⟩⟩ 2482),(.ref 160)⟩,⟨kh P ⟨⟨[95,108,97,119,95,99,101,108,108,115]⟩⟩,(.str ⟨⟨[95,108,97,119,95,99,101,108,108,115]⟩⟩ 2490),(.ref 165)⟩,⟨kh P ⟨⟨[95,108,97,119,95,115,101,99,111,110,100]⟩⟩,(.str ⟨⟨[95,108,97,119,95,115,101,99,111,110,100]⟩⟩ 2503),(.ref 172)⟩,⟨kh P ⟨⟨[95,108,97,119,95,104,101,97,114,100]⟩⟩,(.str ⟨⟨[95,108,97,119,95,104,101,97,114,100]⟩⟩ 2516),(.ref 179)⟩,⟨kh P ⟨⟨[95,108,97,119,95,109,97,105,108]⟩⟩,(.str ⟨⟨[95,108,97,119,95,109,97,105,108]⟩⟩ 2527),(.ref 186)⟩,⟨kh P ⟨⟨[95,108,97,119,95,116,101,120,116]⟩⟩,(.str ⟨⟨[95,108,97,119,95,116,101,120,116]⟩⟩ 2542),(.ref 193)⟩,⟨kh P ⟨⟨[95,108,97,119,95,110,97,109,101,115]⟩⟩,(.str ⟨⟨[95,108,97,119,95,110,97,109,101,115]⟩⟩ 2558),(.ref 200)⟩,⟨kh P ⟨⟨[95,108,97,119,95,115,101,116,116,108,101,100]⟩⟩,(.str ⟨⟨[95,108,97,119,95,115,101,116,116,108,101,100]⟩⟩ 2564),(.ref 205)⟩,⟨kh P ⟨⟨[95,108,97,119,95,103,114,111,119,110]⟩⟩,(.str ⟨⟨[95,108,97,119,95,103,114,111,119,110]⟩⟩ 2570),(.ref 210)⟩,⟨kh P ⟨⟨[108,97,119]⟩⟩,(.str ⟨⟨[108,97,119]⟩⟩ 2576),(.ref 215)⟩]⟩ 34),⟨[]⟩⟩
noncomputable def ob29_28 (P : Params) : Obj := ⟨.none,none,(.fields ⟨[(.int (.ofNat 4) 0),(.int (.ofNat 0) 0),(.ref 43),(.int (.ofNat 7) 0),(.int (.ofNat 0) 0),(.ref 50),(.int (.ofNat 16) 0),(.int (.ofNat 0) 0),(.ref 57),(.int (.ofNat 18) 0),(.int (.ofNat 0) 0),(.ref 64),(.int (.ofNat 24) 0),(.int (.ofNat 0) 0),(.ref 71),(.int (.ofNat 30) 0),(.int (.ofNat 0) 0),(.ref 78),(.int (.ofNat 36) 0),(.int (.ofNat 0) 0),(.ref 95),(.int (.ofNat 40) 0),(.int (.ofNat 0) 0),(.ref 113),(.int (.ofNat 43) 0),(.int (.ofNat 0) 0),(.ref 159),(.int (.ofNat 49) 0),(.int (.ofNat 0) 0),(.ref 164),(.int (.ofNat 52) 0),(.int (.ofNat 0) 0),(.ref 171),(.int (.ofNat 65) 0),(.int (.ofNat 0) 0),(.ref 178),(.int (.ofNat 76) 0),(.int (.ofNat 0) 0),(.ref 185),(.int (.ofNat 83) 0),(.int (.ofNat 0) 0),(.ref 192),(.int (.ofNat 93) 0),(.int (.ofNat 0) 0),(.ref 199),(.int (.ofNat 109) 0),(.int (.ofNat 0) 0),(.ref 204),(.int (.ofNat 121) 0),(.int (.ofNat 0) 0),(.ref 209),(.int (.ofNat 139) 0),(.int (.ofNat 0) 0),(.ref 214)]⟩),⟨[]⟩⟩
noncomputable def ob154 (P : Params) : Obj := ⟨(.type "tuple"),none,(.seq ⟨[]⟩ 0),⟨[]⟩⟩
noncomputable def ob155 (P : Params) : Obj := ⟨.none,none,(.fields ⟨[]⟩),⟨[]⟩⟩
noncomputable def ob156 (P : Params) : Obj := ⟨(.type "tuple"),none,(.seq ⟨[(.str ⟨⟨[99,111,100,101]⟩⟩ 2478),(.str ⟨⟨[114]⟩⟩ 2479)]⟩ 0),⟨[]⟩⟩
noncomputable def ob157 (P : Params) : Obj := ⟨(.type "tuple"),none,(.seq ⟨[]⟩ 0),⟨[]⟩⟩
noncomputable def ob158 (P : Params) : Obj := ⟨.none,none,(.func ⟨⟨⟨[109,97,112,95,116,97,98,108,101,95,98,51]⟩⟩,⟨⟨[109,97,112,95,116,97,98,108,101,95,98,51]⟩⟩,(paramsAt 19),(.stmts (bodyAt 19)),(scopeAt 19),0,[],.none,.none,.none,.none,none,.none,.none,0⟩),⟨[]⟩⟩
noncomputable def ob159 (P : Params) : Obj := ⟨(.type "code"),none,(.fields ⟨[(.str ⟨⟨[109,97,112,95,116,97,98,108,101,95,98,51]⟩⟩ 2475),(.str ⟨⟨[109,97,112,95,116,97,98,108,101,95,98,51]⟩⟩ 2476),(.str ⟨⟨[47,99,108,97,105,109,47,99,117,116,46,112,121]⟩⟩ 2477),(.int (.ofNat 43) 0),(.int (.ofNat 1) 0),(.int (.ofNat 0) 0),(.int (.ofNat 0) 0),(.int (.ofNat 3) 0),(.ref 154),(.bool true),(.int (.ofNat 276) 0),(.ref 155),.none,(.ref 156),(.ref 157),(.ref 158),(.int (.ofNat 2480) 0),(.int (.ofNat 43) 0),(.str ⟨⟨[47,99,108,97,105,109,47,99,117,116,46,112,121]⟩⟩ 2481)]⟩),⟨[]⟩⟩
noncomputable def ob160 (P : Params) : Obj := ⟨(.type "function"),none,(.func ⟨⟨⟨[109,97,112,95,116,97,98,108,101,95,98,51]⟩⟩,⟨⟨[109,97,112,95,116,97,98,108,101,95,98,51]⟩⟩,(paramsAt 19),(.stmts (bodyAt 19)),(scopeAt 19),3,[],.none,.none,.none,(.str ⟨⟨[99,112,121,51,49,51,46,115,116,114,105,110,103,112,114,101,112]⟩⟩ 455),none,(.ref 159),.none,0⟩),⟨[]⟩⟩
noncomputable def ob161 (P : Params) : Obj := ⟨(.type "tuple"),none,(.seq ⟨[]⟩ 0),⟨[]⟩⟩
noncomputable def ob162 (P : Params) : Obj := ⟨.none,none,(.fields ⟨[]⟩),⟨[]⟩⟩
noncomputable def ob163 (P : Params) : Obj := ⟨.none,none,(.func ⟨⟨⟨[95,108,97,119,95,99,101,108,108,115]⟩⟩,⟨⟨[95,108,97,119,95,99,101,108,108,115]⟩⟩,(paramsAt 21),(.stmts (bodyAt 21)),(scopeAt 21),0,[],.none,.none,.none,.none,none,.none,.none,0⟩),⟨[]⟩⟩
noncomputable def ob164 (P : Params) : Obj := ⟨(.type "code"),none,(.fields ⟨[(.str ⟨⟨[95,108,97,119,95,99,101,108,108,115]⟩⟩ 2485),(.str ⟨⟨[95,108,97,119,95,99,101,108,108,115]⟩⟩ 2486),(.str ⟨⟨[47,99,108,97,105,109,47,99,117,116,46,112,121]⟩⟩ 2487),(.int (.ofNat 49) 0),(.int (.ofNat 1) 0),(.int (.ofNat 0) 0),(.int (.ofNat 0) 0),(.int (.ofNat 3) 0),(.ref 161),(.bool true),(.int (.ofNat 276) 0),(.ref 162),.none,.none,.none,(.ref 163),(.int (.ofNat 2488) 0),(.int (.ofNat 49) 0),(.str ⟨⟨[47,99,108,97,105,109,47,99,117,116,46,112,121]⟩⟩ 2489)]⟩),⟨[]⟩⟩
noncomputable def ob165 (P : Params) : Obj := ⟨(.type "function"),none,(.func ⟨⟨⟨[95,108,97,119,95,99,101,108,108,115]⟩⟩,⟨⟨[95,108,97,119,95,99,101,108,108,115]⟩⟩,(paramsAt 21),(.stmts (bodyAt 21)),(scopeAt 21),3,[],.none,.none,.none,(.str ⟨⟨[108,97,119,95,119,106,48,48,52,53,95,48,49]⟩⟩ 2483),none,(.ref 164),.none,0⟩),⟨[]⟩⟩
noncomputable def ob166 (P : Params) : Obj := ⟨(.type "tuple"),none,(.seq ⟨[]⟩ 0),⟨[]⟩⟩
noncomputable def ob167 (P : Params) : Obj := ⟨.none,none,(.fields ⟨[]⟩),⟨[]⟩⟩
noncomputable def ob168 (P : Params) : Obj := ⟨(.type "tuple"),none,(.seq ⟨[(.str ⟨⟨[119,111,114,100]⟩⟩ 2494),(.str ⟨⟨[99,101,108,108,115]⟩⟩ 2495),(.str ⟨⟨[118]⟩⟩ 2496),(.str ⟨⟨[107]⟩⟩ 2497),(.str ⟨⟨[112]⟩⟩ 2498),(.str ⟨⟨[113]⟩⟩ 2499),(.str ⟨⟨[112,97,105,114]⟩⟩ 2500)]⟩ 0),⟨[]⟩⟩
noncomputable def ob169 (P : Params) : Obj := ⟨(.type "tuple"),none,(.seq ⟨[]⟩ 0),⟨[]⟩⟩
noncomputable def ob170 (P : Params) : Obj := ⟨.none,none,(.func ⟨⟨⟨[95,108,97,119,95,115,101,99,111,110,100]⟩⟩,⟨⟨[95,108,97,119,95,115,101,99,111,110,100]⟩⟩,(paramsAt 22),(.stmts (bodyAt 22)),(scopeAt 22),0,[],.none,.none,.none,.none,none,.none,.none,0⟩),⟨[]⟩⟩
noncomputable def ob171 (P : Params) : Obj := ⟨(.type "code"),none,(.fields ⟨[(.str ⟨⟨[95,108,97,119,95,115,101,99,111,110,100]⟩⟩ 2491),(.str ⟨⟨[95,108,97,119,95,115,101,99,111,110,100]⟩⟩ 2492),(.str ⟨⟨[47,99,108,97,105,109,47,99,117,116,46,112,121]⟩⟩ 2493),(.int (.ofNat 52) 0),(.int (.ofNat 2) 0),(.int (.ofNat 0) 0),(.int (.ofNat 0) 0),(.int (.ofNat 3) 0),(.ref 166),(.bool true),(.int (.ofNat 276) 0),(.ref 167),.none,(.ref 168),(.ref 169),(.ref 170),(.int (.ofNat 2501) 0),(.int (.ofNat 52) 0),(.str ⟨⟨[47,99,108,97,105,109,47,99,117,116,46,112,121]⟩⟩ 2502)]⟩),⟨[]⟩⟩
noncomputable def ob172 (P : Params) : Obj := ⟨(.type "function"),none,(.func ⟨⟨⟨[95,108,97,119,95,115,101,99,111,110,100]⟩⟩,⟨⟨[95,108,97,119,95,115,101,99,111,110,100]⟩⟩,(paramsAt 22),(.stmts (bodyAt 22)),(scopeAt 22),3,[],.none,.none,.none,(.str ⟨⟨[108,97,119,95,119,106,48,48,52,53,95,48,49]⟩⟩ 2483),none,(.ref 171),.none,0⟩),⟨[]⟩⟩
noncomputable def ob173 (P : Params) : Obj := ⟨(.type "tuple"),none,(.seq ⟨[]⟩ 0),⟨[]⟩⟩
noncomputable def ob174 (P : Params) : Obj := ⟨.none,none,(.fields ⟨[]⟩),⟨[]⟩⟩
noncomputable def ob175 (P : Params) : Obj := ⟨(.type "tuple"),none,(.seq ⟨[(.str ⟨⟨[119,111,114,100]⟩⟩ 2507),(.str ⟨⟨[99,101,108,108,115]⟩⟩ 2508),(.str ⟨⟨[116,101,120,116]⟩⟩ 2509),(.str ⟨⟨[107]⟩⟩ 2510),(.str ⟨⟨[102,111,114,109]⟩⟩ 2511),(.str ⟨⟨[104,101,97,114,100]⟩⟩ 2512),(.str ⟨⟨[115,105,103,110]⟩⟩ 2513)]⟩ 0),⟨[]⟩⟩
noncomputable def ob176 (P : Params) : Obj := ⟨(.type "tuple"),none,(.seq ⟨[]⟩ 0),⟨[]⟩⟩
noncomputable def ob177 (P : Params) : Obj := ⟨.none,none,(.func ⟨⟨⟨[95,108,97,119,95,104,101,97,114,100]⟩⟩,⟨⟨[95,108,97,119,95,104,101,97,114,100]⟩⟩,(paramsAt 23),(.stmts (bodyAt 23)),(scopeAt 23),0,[],.none,.none,.none,.none,none,.none,.none,0⟩),⟨[]⟩⟩
noncomputable def ob178 (P : Params) : Obj := ⟨(.type "code"),none,(.fields ⟨[(.str ⟨⟨[95,108,97,119,95,104,101,97,114,100]⟩⟩ 2504),(.str ⟨⟨[95,108,97,119,95,104,101,97,114,100]⟩⟩ 2505),(.str ⟨⟨[47,99,108,97,105,109,47,99,117,116,46,112,121]⟩⟩ 2506),(.int (.ofNat 65) 0),(.int (.ofNat 2) 0),(.int (.ofNat 0) 0),(.int (.ofNat 0) 0),(.int (.ofNat 3) 0),(.ref 173),(.bool true),(.int (.ofNat 276) 0),(.ref 174),.none,(.ref 175),(.ref 176),(.ref 177),(.int (.ofNat 2514) 0),(.int (.ofNat 65) 0),(.str ⟨⟨[47,99,108,97,105,109,47,99,117,116,46,112,121]⟩⟩ 2515)]⟩),⟨[]⟩⟩
noncomputable def ob179 (P : Params) : Obj := ⟨(.type "function"),none,(.func ⟨⟨⟨[95,108,97,119,95,104,101,97,114,100]⟩⟩,⟨⟨[95,108,97,119,95,104,101,97,114,100]⟩⟩,(paramsAt 23),(.stmts (bodyAt 23)),(scopeAt 23),3,[],.none,.none,.none,(.str ⟨⟨[108,97,119,95,119,106,48,48,52,53,95,48,49]⟩⟩ 2483),none,(.ref 178),.none,0⟩),⟨[]⟩⟩
noncomputable def ob180 (P : Params) : Obj := ⟨(.type "tuple"),none,(.seq ⟨[]⟩ 0),⟨[]⟩⟩
noncomputable def ob181 (P : Params) : Obj := ⟨.none,none,(.fields ⟨[]⟩),⟨[]⟩⟩
noncomputable def ob182 (P : Params) : Obj := ⟨(.type "tuple"),none,(.seq ⟨[(.str ⟨⟨[119,111,114,100]⟩⟩ 2520),(.str ⟨⟨[114,111,119,115]⟩⟩ 2521),(.str ⟨⟨[107]⟩⟩ 2522),(.str ⟨⟨[108,101,97,102]⟩⟩ 2523),(.str ⟨⟨[116,119,105,110]⟩⟩ 2524)]⟩ 0),⟨[]⟩⟩
noncomputable def ob183 (P : Params) : Obj := ⟨(.type "tuple"),none,(.seq ⟨[]⟩ 0),⟨[]⟩⟩
noncomputable def ob184 (P : Params) : Obj := ⟨.none,none,(.func ⟨⟨⟨[95,108,97,119,95,109,97,105,108]⟩⟩,⟨⟨[95,108,97,119,95,109,97,105,108]⟩⟩,(paramsAt 24),(.stmts (bodyAt 24)),(scopeAt 24),0,[],.none,.none,.none,.none,none,.none,.none,0⟩),⟨[]⟩⟩
noncomputable def ob185 (P : Params) : Obj := ⟨(.type "code"),none,(.fields ⟨[(.str ⟨⟨[95,108,97,119,95,109,97,105,108]⟩⟩ 2517),(.str ⟨⟨[95,108,97,119,95,109,97,105,108]⟩⟩ 2518),(.str ⟨⟨[47,99,108,97,105,109,47,99,117,116,46,112,121]⟩⟩ 2519),(.int (.ofNat 76) 0),(.int (.ofNat 1) 0),(.int (.ofNat 0) 0),(.int (.ofNat 0) 0),(.int (.ofNat 3) 0),(.ref 180),(.bool true),(.int (.ofNat 276) 0),(.ref 181),.none,(.ref 182),(.ref 183),(.ref 184),(.int (.ofNat 2525) 0),(.int (.ofNat 76) 0),(.str ⟨⟨[47,99,108,97,105,109,47,99,117,116,46,112,121]⟩⟩ 2526)]⟩),⟨[]⟩⟩
noncomputable def ob186 (P : Params) : Obj := ⟨(.type "function"),none,(.func ⟨⟨⟨[95,108,97,119,95,109,97,105,108]⟩⟩,⟨⟨[95,108,97,119,95,109,97,105,108]⟩⟩,(paramsAt 24),(.stmts (bodyAt 24)),(scopeAt 24),3,[],.none,.none,.none,(.str ⟨⟨[108,97,119,95,119,106,48,48,52,53,95,48,49]⟩⟩ 2483),none,(.ref 185),.none,0⟩),⟨[]⟩⟩
noncomputable def ob187 (P : Params) : Obj := ⟨(.type "tuple"),none,(.seq ⟨[]⟩ 0),⟨[]⟩⟩
noncomputable def ob188 (P : Params) : Obj := ⟨.none,none,(.fields ⟨[]⟩),⟨[]⟩⟩
noncomputable def ob189 (P : Params) : Obj := ⟨(.type "tuple"),none,(.seq ⟨[(.str ⟨⟨[119,111,114,100]⟩⟩ 2531),(.str ⟨⟨[99,101,108,108,115]⟩⟩ 2532),(.str ⟨⟨[116,101,120,116]⟩⟩ 2533),(.str ⟨⟨[107]⟩⟩ 2534),(.str ⟨⟨[113,117,111,116,101,100]⟩⟩ 2535),(.str ⟨⟨[110,97,109,101]⟩⟩ 2536),(.str ⟨⟨[112,105,101,99,101,115]⟩⟩ 2537),(.str ⟨⟨[97,104,101,97,100]⟩⟩ 2538),(.str ⟨⟨[98,101,104,105,110,100]⟩⟩ 2539)]⟩ 0),⟨[]⟩⟩
noncomputable def ob190 (P : Params) : Obj := ⟨(.type "tuple"),none,(.seq ⟨[]⟩ 0),⟨[]⟩⟩
noncomputable def ob191 (P : Params) : Obj := ⟨.none,none,(.func ⟨⟨⟨[95,108,97,119,95,116,101,120,116]⟩⟩,⟨⟨[95,108,97,119,95,116,101,120,116]⟩⟩,(paramsAt 25),(.stmts (bodyAt 25)),(scopeAt 25),0,[],.none,.none,.none,.none,none,.none,.none,0⟩),⟨[]⟩⟩
noncomputable def ob192 (P : Params) : Obj := ⟨(.type "code"),none,(.fields ⟨[(.str ⟨⟨[95,108,97,119,95,116,101,120,116]⟩⟩ 2528),(.str ⟨⟨[95,108,97,119,95,116,101,120,116]⟩⟩ 2529),(.str ⟨⟨[47,99,108,97,105,109,47,99,117,116,46,112,121]⟩⟩ 2530),(.int (.ofNat 83) 0),(.int (.ofNat 2) 0),(.int (.ofNat 0) 0),(.int (.ofNat 0) 0),(.int (.ofNat 3) 0),(.ref 187),(.bool true),(.int (.ofNat 276) 0),(.ref 188),.none,(.ref 189),(.ref 190),(.ref 191),(.int (.ofNat 2540) 0),(.int (.ofNat 83) 0),(.str ⟨⟨[47,99,108,97,105,109,47,99,117,116,46,112,121]⟩⟩ 2541)]⟩),⟨[]⟩⟩
noncomputable def ob193 (P : Params) : Obj := ⟨(.type "function"),none,(.func ⟨⟨⟨[95,108,97,119,95,116,101,120,116]⟩⟩,⟨⟨[95,108,97,119,95,116,101,120,116]⟩⟩,(paramsAt 25),(.stmts (bodyAt 25)),(scopeAt 25),3,[],.none,.none,.none,(.str ⟨⟨[108,97,119,95,119,106,48,48,52,53,95,48,49]⟩⟩ 2483),none,(.ref 192),.none,0⟩),⟨[]⟩⟩
noncomputable def ob194 (P : Params) : Obj := ⟨(.type "tuple"),none,(.seq ⟨[]⟩ 0),⟨[]⟩⟩
noncomputable def ob195 (P : Params) : Obj := ⟨.none,none,(.fields ⟨[]⟩),⟨[]⟩⟩
noncomputable def ob196 (P : Params) : Obj := ⟨(.type "tuple"),none,(.seq ⟨[(.str ⟨⟨[116,101,120,116]⟩⟩ 2546),(.str ⟨⟨[99,101,108,108,115]⟩⟩ 2547),(.str ⟨⟨[111,114,100,101,114]⟩⟩ 2548),(.str ⟨⟨[100,117,101]⟩⟩ 2549),(.str ⟨⟨[97,104,101,97,100]⟩⟩ 2550),(.str ⟨⟨[112,105,101,99,101,115]⟩⟩ 2551),(.str ⟨⟨[107]⟩⟩ 2552),(.str ⟨⟨[118,97,108,117,101]⟩⟩ 2553),(.str ⟨⟨[111,99,116,101,116]⟩⟩ 2554),(.str ⟨⟨[99,97,109,101]⟩⟩ 2555)]⟩ 0),⟨[]⟩⟩
noncomputable def ob197 (P : Params) : Obj := ⟨(.type "tuple"),none,(.seq ⟨[]⟩ 0),⟨[]⟩⟩
noncomputable def ob198 (P : Params) : Obj := ⟨.none,none,(.func ⟨⟨⟨[95,108,97,119,95,110,97,109,101,115]⟩⟩,⟨⟨[95,108,97,119,95,110,97,109,101,115]⟩⟩,(paramsAt 26),(.stmts (bodyAt 26)),(scopeAt 26),0,[],.none,.none,.none,.none,none,.none,.none,0⟩),⟨[]⟩⟩
noncomputable def ob199 (P : Params) : Obj := ⟨(.type "code"),none,(.fields ⟨[(.str ⟨⟨[95,108,97,119,95,110,97,109,101,115]⟩⟩ 2543),(.str ⟨⟨[95,108,97,119,95,110,97,109,101,115]⟩⟩ 2544),(.str ⟨⟨[47,99,108,97,105,109,47,99,117,116,46,112,121]⟩⟩ 2545),(.int (.ofNat 93) 0),(.int (.ofNat 2) 0),(.int (.ofNat 0) 0),(.int (.ofNat 0) 0),(.int (.ofNat 3) 0),(.ref 194),(.bool true),(.int (.ofNat 276) 0),(.ref 195),.none,(.ref 196),(.ref 197),(.ref 198),(.int (.ofNat 2556) 0),(.int (.ofNat 93) 0),(.str ⟨⟨[47,99,108,97,105,109,47,99,117,116,46,112,121]⟩⟩ 2557)]⟩),⟨[]⟩⟩
noncomputable def ob200 (P : Params) : Obj := ⟨(.type "function"),none,(.func ⟨⟨⟨[95,108,97,119,95,110,97,109,101,115]⟩⟩,⟨⟨[95,108,97,119,95,110,97,109,101,115]⟩⟩,(paramsAt 26),(.stmts (bodyAt 26)),(scopeAt 26),3,[],.none,.none,.none,(.str ⟨⟨[108,97,119,95,119,106,48,48,52,53,95,48,49]⟩⟩ 2483),none,(.ref 199),.none,0⟩),⟨[]⟩⟩
noncomputable def ob201 (P : Params) : Obj := ⟨(.type "tuple"),none,(.seq ⟨[]⟩ 0),⟨[]⟩⟩
noncomputable def ob202 (P : Params) : Obj := ⟨.none,none,(.fields ⟨[]⟩),⟨[]⟩⟩
noncomputable def ob203 (P : Params) : Obj := ⟨.none,none,(.func ⟨⟨⟨[95,108,97,119,95,115,101,116,116,108,101,100]⟩⟩,⟨⟨[95,108,97,119,95,115,101,116,116,108,101,100]⟩⟩,(paramsAt 27),(.stmts (bodyAt 27)),(scopeAt 27),0,[],.none,.none,.none,.none,none,.none,.none,0⟩),⟨[]⟩⟩
noncomputable def ob204 (P : Params) : Obj := ⟨(.type "code"),none,(.fields ⟨[(.str ⟨⟨[95,108,97,119,95,115,101,116,116,108,101,100]⟩⟩ 2559),(.str ⟨⟨[95,108,97,119,95,115,101,116,116,108,101,100]⟩⟩ 2560),(.str ⟨⟨[47,99,108,97,105,109,47,99,117,116,46,112,121]⟩⟩ 2561),(.int (.ofNat 109) 0),(.int (.ofNat 2) 0),(.int (.ofNat 0) 0),(.int (.ofNat 0) 0),(.int (.ofNat 3) 0),(.ref 201),(.bool true),(.int (.ofNat 276) 0),(.ref 202),.none,.none,.none,(.ref 203),(.int (.ofNat 2562) 0),(.int (.ofNat 109) 0),(.str ⟨⟨[47,99,108,97,105,109,47,99,117,116,46,112,121]⟩⟩ 2563)]⟩),⟨[]⟩⟩
noncomputable def ob205 (P : Params) : Obj := ⟨(.type "function"),none,(.func ⟨⟨⟨[95,108,97,119,95,115,101,116,116,108,101,100]⟩⟩,⟨⟨[95,108,97,119,95,115,101,116,116,108,101,100]⟩⟩,(paramsAt 27),(.stmts (bodyAt 27)),(scopeAt 27),3,[],.none,.none,.none,(.str ⟨⟨[108,97,119,95,119,106,48,48,52,53,95,48,49]⟩⟩ 2483),none,(.ref 204),.none,0⟩),⟨[]⟩⟩
noncomputable def ob206 (P : Params) : Obj := ⟨(.type "tuple"),none,(.seq ⟨[]⟩ 0),⟨[]⟩⟩
noncomputable def ob207 (P : Params) : Obj := ⟨.none,none,(.fields ⟨[]⟩),⟨[]⟩⟩
noncomputable def ob208 (P : Params) : Obj := ⟨.none,none,(.func ⟨⟨⟨[95,108,97,119,95,103,114,111,119,110]⟩⟩,⟨⟨[95,108,97,119,95,103,114,111,119,110]⟩⟩,(paramsAt 28),(.stmts (bodyAt 28)),(scopeAt 28),0,[],.none,.none,.none,.none,none,.none,.none,0⟩),⟨[]⟩⟩
noncomputable def ob209 (P : Params) : Obj := ⟨(.type "code"),none,(.fields ⟨[(.str ⟨⟨[95,108,97,119,95,103,114,111,119,110]⟩⟩ 2565),(.str ⟨⟨[95,108,97,119,95,103,114,111,119,110]⟩⟩ 2566),(.str ⟨⟨[47,99,108,97,105,109,47,99,117,116,46,112,121]⟩⟩ 2567),(.int (.ofNat 121) 0),(.int (.ofNat 2) 0),(.int (.ofNat 0) 0),(.int (.ofNat 0) 0),(.int (.ofNat 3) 0),(.ref 206),(.bool true),(.int (.ofNat 276) 0),(.ref 207),.none,.none,.none,(.ref 208),(.int (.ofNat 2568) 0),(.int (.ofNat 121) 0),(.str ⟨⟨[47,99,108,97,105,109,47,99,117,116,46,112,121]⟩⟩ 2569)]⟩),⟨[]⟩⟩
noncomputable def ob210 (P : Params) : Obj := ⟨(.type "function"),none,(.func ⟨⟨⟨[95,108,97,119,95,103,114,111,119,110]⟩⟩,⟨⟨[95,108,97,119,95,103,114,111,119,110]⟩⟩,(paramsAt 28),(.stmts (bodyAt 28)),(scopeAt 28),3,[],.none,.none,.none,(.str ⟨⟨[108,97,119,95,119,106,48,48,52,53,95,48,49]⟩⟩ 2483),none,(.ref 209),.none,0⟩),⟨[]⟩⟩
noncomputable def ob211 (P : Params) : Obj := ⟨(.type "tuple"),none,(.seq ⟨[]⟩ 0),⟨[]⟩⟩
noncomputable def ob212 (P : Params) : Obj := ⟨.none,none,(.fields ⟨[]⟩),⟨[]⟩⟩
noncomputable def ob213 (P : Params) : Obj := ⟨.none,none,(.func ⟨⟨⟨[108,97,119]⟩⟩,⟨⟨[108,97,119]⟩⟩,(paramsAt 29),(.stmts (bodyAt 29)),(scopeAt 29),0,[],.none,.none,.none,.none,none,.none,.none,0⟩),⟨[]⟩⟩
noncomputable def ob214 (P : Params) : Obj := ⟨(.type "code"),none,(.fields ⟨[(.str ⟨⟨[108,97,119]⟩⟩ 2571),(.str ⟨⟨[108,97,119]⟩⟩ 2572),(.str ⟨⟨[47,99,108,97,105,109,47,99,117,116,46,112,121]⟩⟩ 2573),(.int (.ofNat 139) 0),(.int (.ofNat 1) 0),(.int (.ofNat 0) 0),(.int (.ofNat 0) 0),(.int (.ofNat 3) 0),(.ref 211),(.bool true),(.int (.ofNat 276) 0),(.ref 212),.none,.none,.none,(.ref 213),(.int (.ofNat 2574) 0),(.int (.ofNat 139) 0),(.str ⟨⟨[47,99,108,97,105,109,47,99,117,116,46,112,121]⟩⟩ 2575)]⟩),⟨[]⟩⟩
noncomputable def ob215 (P : Params) : Obj := ⟨(.type "function"),none,(.func ⟨⟨⟨[108,97,119]⟩⟩,⟨⟨[108,97,119]⟩⟩,(paramsAt 29),(.stmts (bodyAt 29)),(scopeAt 29),3,[],.none,.none,.none,(.str ⟨⟨[108,97,119,95,119,106,48,48,52,53,95,48,49]⟩⟩ 2483),none,(.ref 214),.none,0⟩),⟨[]⟩⟩
noncomputable def tree_28 (P : Params) : BT := (.node (ob0 P) (.node (ob1 P) (.node (ob3_28 P) (.node (ob7 P) (.node (ob15 P) (.node (ob31 P) (.node (ob63 P) (.node (ob127 P) .nil .nil) (.node (ob191 P) .nil .nil)) (.node (ob95 P) (.node (ob159 P) .nil .nil) .nil)) (.node (ob47 P) (.node (ob79 P) (.node (ob143 P) .nil .nil) (.node (ob207 P) .nil .nil)) (.node (ob111 P) (.node (ob175 P) .nil .nil) .nil))) (.node (ob23 P) (.node (ob39 P) (.node (ob71 P) (.node (ob135 P) .nil .nil) (.node (ob199 P) .nil .nil)) (.node (ob103 P) (.node (ob167 P) .nil .nil) .nil)) (.node (ob55 P) (.node (ob87 P) (.node (ob151 P) .nil .nil) (.node (ob215 P) .nil .nil)) (.node (ob119 P) (.node (ob183 P) .nil .nil) .nil)))) (.node (ob11 P) (.node (ob19 P) (.node (ob35 P) (.node (ob67 P) (.node (ob131 P) .nil .nil) (.node (ob195 P) .nil .nil)) (.node (ob99 P) (.node (ob163 P) .nil .nil) .nil)) (.node (ob51 P) (.node (ob83 P) (.node (ob147 P) .nil .nil) (.node (ob211 P) .nil .nil)) (.node (ob115 P) (.node (ob179 P) .nil .nil) .nil))) (.node (ob27 P) (.node (ob43 P) (.node (ob75 P) (.node (ob139 P) .nil .nil) (.node (ob203 P) .nil .nil)) (.node (ob107 P) (.node (ob171 P) .nil .nil) .nil)) (.node (ob59 P) (.node (ob91 P) (.node (ob155 P) .nil .nil) .nil) (.node (ob123 P) (.node (ob187 P) .nil .nil) .nil))))) (.node (ob5 P) (.node (ob9 P) (.node (ob17 P) (.node (ob33 P) (.node (ob65 P) (.node (ob129 P) .nil .nil) (.node (ob193 P) .nil .nil)) (.node (ob97 P) (.node (ob161 P) .nil .nil) .nil)) (.node (ob49 P) (.node (ob81 P) (.node (ob145 P) .nil .nil) (.node (ob209 P) .nil .nil)) (.node (ob113 P) (.node (ob177 P) .nil .nil) .nil))) (.node (ob25 P) (.node (ob41 P) (.node (ob73 P) (.node (ob137 P) .nil .nil) (.node (ob201 P) .nil .nil)) (.node (ob105 P) (.node (ob169 P) .nil .nil) .nil)) (.node (ob57 P) (.node (ob89 P) (.node (ob153 P) .nil .nil) .nil) (.node (ob121 P) (.node (ob185 P) .nil .nil) .nil)))) (.node (ob13 P) (.node (ob21 P) (.node (ob37 P) (.node (ob69 P) (.node (ob133 P) .nil .nil) (.node (ob197 P) .nil .nil)) (.node (ob101 P) (.node (ob165 P) .nil .nil) .nil)) (.node (ob53 P) (.node (ob85 P) (.node (ob149 P) .nil .nil) (.node (ob213 P) .nil .nil)) (.node (ob117 P) (.node (ob181 P) .nil .nil) .nil))) (.node (ob29_28 P) (.node (ob45 P) (.node (ob77 P) (.node (ob141 P) .nil .nil) (.node (ob205 P) .nil .nil)) (.node (ob109 P) (.node (ob173 P) .nil .nil) .nil)) (.node (ob61 P) (.node (ob93 P) (.node (ob157 P) .nil .nil) .nil) (.node (ob125 P) (.node (ob189 P) .nil .nil) .nil)))))) (.node (ob2 P) (.node (ob4 P) (.node (ob8 P) (.node (ob16 P) (.node (ob32 P) (.node (ob64 P) (.node (ob128 P) .nil .nil) (.node (ob192 P) .nil .nil)) (.node (ob96 P) (.node (ob160 P) .nil .nil) .nil)) (.node (ob48 P) (.node (ob80 P) (.node (ob144 P) .nil .nil) (.node (ob208 P) .nil .nil)) (.node (ob112 P) (.node (ob176 P) .nil .nil) .nil))) (.node (ob24 P) (.node (ob40 P) (.node (ob72 P) (.node (ob136 P) .nil .nil) (.node (ob200 P) .nil .nil)) (.node (ob104 P) (.node (ob168 P) .nil .nil) .nil)) (.node (ob56 P) (.node (ob88 P) (.node (ob152 P) .nil .nil) .nil) (.node (ob120 P) (.node (ob184 P) .nil .nil) .nil)))) (.node (ob12 P) (.node (ob20 P) (.node (ob36 P) (.node (ob68 P) (.node (ob132 P) .nil .nil) (.node (ob196 P) .nil .nil)) (.node (ob100 P) (.node (ob164 P) .nil .nil) .nil)) (.node (ob52 P) (.node (ob84 P) (.node (ob148 P) .nil .nil) (.node (ob212 P) .nil .nil)) (.node (ob116 P) (.node (ob180 P) .nil .nil) .nil))) (.node (ob28 P) (.node (ob44 P) (.node (ob76 P) (.node (ob140 P) .nil .nil) (.node (ob204 P) .nil .nil)) (.node (ob108 P) (.node (ob172 P) .nil .nil) .nil)) (.node (ob60 P) (.node (ob92 P) (.node (ob156 P) .nil .nil) .nil) (.node (ob124 P) (.node (ob188 P) .nil .nil) .nil))))) (.node (ob6 P) (.node (ob10 P) (.node (ob18 P) (.node (ob34 P) (.node (ob66 P) (.node (ob130 P) .nil .nil) (.node (ob194 P) .nil .nil)) (.node (ob98 P) (.node (ob162 P) .nil .nil) .nil)) (.node (ob50 P) (.node (ob82 P) (.node (ob146 P) .nil .nil) (.node (ob210 P) .nil .nil)) (.node (ob114 P) (.node (ob178 P) .nil .nil) .nil))) (.node (ob26 P) (.node (ob42 P) (.node (ob74 P) (.node (ob138 P) .nil .nil) (.node (ob202 P) .nil .nil)) (.node (ob106 P) (.node (ob170 P) .nil .nil) .nil)) (.node (ob58 P) (.node (ob90 P) (.node (ob154 P) .nil .nil) .nil) (.node (ob122 P) (.node (ob186 P) .nil .nil) .nil)))) (.node (ob14 P) (.node (ob22 P) (.node (ob38 P) (.node (ob70 P) (.node (ob134 P) .nil .nil) (.node (ob198 P) .nil .nil)) (.node (ob102 P) (.node (ob166 P) .nil .nil) .nil)) (.node (ob54 P) (.node (ob86 P) (.node (ob150 P) .nil .nil) (.node (ob214 P) .nil .nil)) (.node (ob118 P) (.node (ob182 P) .nil .nil) .nil))) (.node (ob30 P) (.node (ob46 P) (.node (ob78 P) (.node (ob142 P) .nil .nil) (.node (ob206 P) .nil .nil)) (.node (ob110 P) (.node (ob174 P) .nil .nil) .nil)) (.node (ob62 P) (.node (ob94 P) (.node (ob158 P) .nil .nil) .nil) (.node (ob126 P) (.node (ob190 P) .nil .nil) .nil)))))))
end Hd
end Mine
end
section -- H5
open PySem PySem.W PyProof.Rows PySem.Calls
set_option Elab.async false
set_option linter.all false
set_option maxRecDepth 100000
namespace Mine
namespace Hd
open PySem.W.Fast
noncomputable def benv : Env := { scope := prog.main.scope, locals := mainNs, globals := mainNs, cells := [], code := .ref 30, frame := some 31 }
noncomputable def bE : List Stmt := behindTheImports prog
noncomputable abbrev cE : Code := .body bE benv
noncomputable abbrev p0 : Pos := ⟨0, 0, 0, 0⟩
noncomputable abbrev st (T : Params → BT) (n k : Nat) (w : World) (os : OsState) : SharedT := ⟨T w.params, n, life0, ⟨[]⟩, {}, k, os⟩
noncomputable def g1 : List Stmt := bE.take 10
noncomputable def g2 : List Stmt := (bE.drop 10).take 5
noncomputable def g3 : List Stmt := (bE.drop 15).take 1
noncomputable def g4 : List Stmt := (bE.drop 16).take 1
noncomputable def g5 : List Stmt := (bE.drop 17).take 1
noncomputable def g6 : List Stmt := bE.drop 18
theorem bE_is : bE = g1 ++ (g2 ++ (g3 ++ (g4 ++ (g5 ++ g6)))) := by kernel_rfl!
set_option maxHeartbeats 0 in
theorem pre_run (w : World) (os : OsState) : topGo treeTable prog w 28 (some (.ref 6)) 12 ⟨heap0 w.params, ⟨[]⟩, {}, 276, os⟩ (topStub prog) = some ((st tree_a 32 282 w os).abs, ⟨denote treeTable cE, cE, p0, [topFrame p0]⟩) := by
  kernel_rfl!
theorem block_run (w : World) (os : OsState) : segRun treeTable prog w 28 (some (.ref 6)) 1 1 (st tree_a 32 282 w os).abs (blockOf bE benv cE p0 [topFrame p0]) = some (.next, (st tree_a 32 282 w os).abs, cE, p0) := by
  kernel_rfl!
set_option maxHeartbeats 0 in
theorem g1_run (w : World) (os : OsState) : segRunT treeTable prog w 28 (some (.ref 6)) 1 400 (st tree_a 32 282 w os) (piecesOf g1 benv cE p0 [topFrame p0]) = some (.next, st tree_9 80 388 w os, cE, ⟨32,0,32,8⟩) := by
  rw [te10110043849684766642, te14364793385576792824]
  kernel_rfl!
end Hd
end Mine
end
section -- H8
open PySem PySem.W PyProof.Rows PySem.Calls
set_option Elab.async false
set_option linter.all false
set_option maxRecDepth 100000
namespace Mine
namespace Hd
noncomputable abbrev ann0 : Option Value := some (.ref 6)
noncomputable abbrev B0 : List Frame := [topFrame p0]
/-- the tree comes from s to s' and yields a, whatever stands around it -/
structure Ex {α : Type} (w : World) (c : Nat) (m : Sem α) (s s' : Shared) (a : α) : Prop where
  run : ∀ (K : α → Sem Fin) (H : Value → Sem Fin) (gd : Bool → Bool) (lv : List Value → List Value) (pos : Pos), ∃ n pos', n ≤ c ∧
    segGo treeTable prog w 28 ann0 1 n s ⟨m.wrap K H gd lv, cE, pos, B0⟩ = some (s', ⟨K a, cE, pos', B0⟩)
section
variable {α β : Type} {w : World} {s s' s'' : Shared} {c c1 c2 : Nat}
theorem Ex.le {m : Sem α} {a : α} (h : Ex w c1 m s s' a) (hc : c1 ≤ c2) : Ex w c2 m s s' a := ⟨fun K H gd lv pos => by
  obtain ⟨n, p, h1, h2⟩ := h.run K H gd lv pos
  exact ⟨n, p, Nat.le_trans h1 hc, h2⟩⟩
theorem segGo_app {n k : Nat} {s s' s'' : Shared} {t t' t'' : Thread} : segGo treeTable prog w 28 ann0 1 n s t = some (s', t') → segGo treeTable prog w 28 ann0 1 k s' t' = some (s'', t'') → segGo treeTable prog w 28 ann0 1 (n + k) s t = some (s'', t'') := by
  induction n generalizing s t with
  | zero => intro h1 h2; simp only [segGo, Option.some.injEq, Prod.mk.injEq] at h1; obtain ⟨rfl, rfl⟩ := h1; rw [Nat.zero_add]; exact h2
  | succ n ih =>
    intro h1 h2
    rw [show n + 1 + k = n + k + 1 by omega]
    unfold segGo at h1 ⊢
    cases he : endAt 1 t with
    | some f => rw [he] at h1; cases h1
    | none =>
      rw [he] at h1
      cases hk : stepOk 28 ann0 t with
      | false => rw [hk] at h1; cases h1
      | true =>
        rw [hk] at h1
        cases hs : PySem.step (denote treeTable) prog w s t with
        | halt o s₂ => rw [hs] at h1; cases h1
        | go s₂ t₂ => rw [hs] at h1; exact ih h1 h2
theorem Ex.pure (a : α) : Ex w 0 (.pure a) s s a := ⟨fun K H gd lv pos => ⟨0, pos, Nat.le_refl _, rfl⟩⟩
theorem Ex.bind {m : Sem α} {f : α → Sem β} {a : α} {b : β} (h1 : Ex w c1 m s s' a) (h2 : Ex w c2 (f a) s' s'' b) : Ex w (c1 + c2) (m >>= f) s s'' b := ⟨fun K H gd lv pos => by
  rw [Sem.bind_eq_wrap', Sem.wrap_wrap]
  obtain ⟨n, p1, l1, e1⟩ := h1.run (fun a => (f a).wrap K H gd lv) (fun e => (Sem.raise e : Sem β).wrap K H gd lv) (fun g => gd (id g)) (fun l => lv (id l)) pos
  obtain ⟨k, p2, l2, e2⟩ := h2.run K H gd lv p1
  exact ⟨n + k, p2, Nat.add_le_add l1 l2, segGo_app e1 e2⟩⟩
theorem Ex.keep {m : Sem α} {a : α} {vs : List Value} (h1 : Ex w c m s s' a) : Ex w c (m.keep vs) s s' a := ⟨fun K H gd lv pos => by
  rw [Sem.keep_eq_wrap, Sem.wrap_wrap]
  exact h1.run (fun a => K a) (fun e => (Sem.raise e : Sem α).wrap K H gd lv) (fun g => gd (id g)) (fun l => lv (vs ++ l)) pos⟩
theorem Ex.holding {m : Sem α} {a : α} {vs : List Value} (h1 : Ex w c m s s' a) : Ex w c (holding vs m) s s' a := by
  unfold PySem.holding
  split
  · exact h1
  · exact h1.keep
theorem Ex.onRaise {m : Sem α} {a : α} {h : Value → Sem Unit} (h1 : Ex w c m s s' a) : Ex w c (m.onRaise h) s s' a := ⟨fun K H gd lv pos => by
  rw [Sem.onRaise_eq_wrap, Sem.wrap_wrap]
  exact h1.run _ _ _ _ pos⟩
theorem Ex.step {m : Sem α} {m' : Sem α} {a : α} (h : ∀ (K : α → Sem Fin) (H : Value → Sem Fin) (gd : Bool → Bool) (lv : List Value → List Value) (pos : Pos), ∃ pos',
    segGo treeTable prog w 28 ann0 1 1 s ⟨m.wrap K H gd lv, cE, pos, B0⟩ = some (s', ⟨m'.wrap K H gd lv, cE, pos', B0⟩)) (h2 : Ex w c m' s' s'' a) : Ex w (c + 1) m s s'' a := ⟨fun K H gd lv pos => by
  obtain ⟨p1, e1⟩ := h K H gd lv pos
  obtain ⟨k, p2, l2, e2⟩ := h2.run K H gd lv p1
  exact ⟨1 + k, p2, by omega, segGo_app e1 e2⟩⟩
theorem Ex.load {a : Addr} {q : Option Value} {o : Obj} {k : Obj → Sem α} {r : α} (ho : s.heap.get? a = some o) (h : Ex w c (k o) s s' r) : Ex w (c + 1) (.load a q k) s s' r := by
  refine Ex.step (s' := s) (m' := k o) (fun K H gd lv pos => ⟨pos, ?_⟩) h
  obtain ⟨heap, gens, drawn, toks, os⟩ := s
  have ho' : heap.get? a = some o := ho
  show (match PySem.step (denote treeTable) prog w ⟨heap, gens, drawn, toks, os⟩ ⟨.load a q fun x => (k x).wrap K H gd lv, cE, pos, B0⟩ with | .go s' t' => some (s', t') | .halt _ _ => none) = _
  simp only [PySem.step, ho']
theorem Ex.rule {t : String} {k : Unit → Sem α} {r : α} (h : Ex w c (k ()) s s' r) : Ex w (c + 1) (.rule t k) s s' r := by
  refine Ex.step (s' := s) (m' := k ()) (fun K H gd lv pos => ⟨pos, ?_⟩) h
  obtain ⟨heap, gens, drawn, toks, os⟩ := s
  rfl
theorem Ex.at {p : Pos} {k : Unit → Sem α} {r : α} (h : Ex w c (k ()) s s' r) : Ex w (c + 1) (.at p k) s s' r := by
  refine Ex.step (s' := s) (m' := k ()) (fun K H gd lv pos => ⟨p, ?_⟩) h
  obtain ⟨heap, gens, drawn, toks, os⟩ := s
  rfl
theorem Ex.ask {k : Setting → Sem α} {r : α} (h : Ex w c (k ⟨prog, w.params⟩) s s' r) : Ex w (c + 1) (.ask k) s s' r := by
  refine Ex.step (s' := s) (m' := k ⟨prog, w.params⟩) (fun K H gd lv pos => ⟨pos, ?_⟩) h
  obtain ⟨heap, gens, drawn, toks, os⟩ := s
  rfl
theorem Ex.fresh {k : Tok → Sem α} {r : α} (h : Ex w c (k s.toks) { s with toks := s.toks + 1 } s' r) : Ex w (c + 1) (.fresh k) s s' r := by
  refine Ex.step (s' := { s with toks := s.toks + 1 }) (m' := k s.toks) (fun K H gd lv pos => ⟨pos, ?_⟩) h
  obtain ⟨heap, gens, drawn, toks, os⟩ := s
  rfl
theorem Ex.alloc {o : Obj} {k : Addr → Sem α} {r : α} (h : Ex w c (k s.heap.objs.size) { s with heap := s.heap.push o } s' r) : Ex w (c + 1) (.alloc o k) s s' r := by
  refine Ex.step (s' := { s with heap := s.heap.push o }) (m' := k s.heap.objs.size) (fun K H gd lv pos => ⟨pos, ?_⟩) h
  obtain ⟨heap, gens, drawn, toks, os⟩ := s
  rfl
theorem Ex.update {a : Addr} {q : Option Value} {f : Obj → Obj} {k : Unit → Sem α} {r : α} (ha : 28 ≤ a) (ho : (s.heap.get? a).isSome = true) (h : Ex w c (k ()) { s with heap := s.heap.update a f } s' r) : Ex w (c + 1) (.update a q f k) s s' r := by
  refine Ex.step (s' := { s with heap := s.heap.update a f }) (m' := k ()) (fun K H gd lv pos => ⟨pos, ?_⟩) h
  obtain ⟨heap, gens, drawn, toks, os⟩ := s
  have ho' : (heap.get? a).isSome = true := ho
  have hk : stepOk 28 ann0 ⟨.update a q f fun x => (k x).wrap K H gd lv, cE, pos, B0⟩ = true := by
    show (_ && (Nat.ble 28 a || _ || _ || _)) = true
    rw [Nat.ble_eq_true_of_le ha]
    rfl
  show (match stepOk 28 ann0 ⟨.update a q f fun x => (k x).wrap K H gd lv, cE, pos, B0⟩ with
      | false => none
      | true => match PySem.step (denote treeTable) prog w ⟨heap, gens, drawn, toks, os⟩ ⟨.update a q f fun x => (k x).wrap K H gd lv, cE, pos, B0⟩ with | .go s' t' => some (s', t') | .halt _ _ => none) = _
  rw [hk]
  simp only [PySem.step, ho', if_true]
end
end Hd
end Mine
end
section -- H9
open PySem PySem.W PyProof.Rows PySem.Calls
set_option Elab.async false
set_option linter.all false
set_option maxRecDepth 100000
namespace Mine
namespace Hd
variable {w : World}
noncomputable def hx (x : Int) : Int :=
  let h : Int := x.natAbs % (2 ^ 61 - 1 : Nat)
  let h := if x < 0 then -h else h
  if h == -1 then -2 else h
theorem hash_go' (b : Bool) (x : Int) (t : Nat) (heap : Heap) (gens : Array GenState) (drawn : Drawn) (toks : Nat) (os : OsState) (K : Int → Sem Fin) (H : Value → Sem Fin) (gd : Bool → Bool) (lv : List Value → List Value) (pos : Pos) :
    segGo treeTable prog (w.withFollow "special-get-raises" b) 28 ann0 1 5 ⟨heap, gens, drawn, toks, os⟩ ⟨(pyHash (.int x t)).wrap K H gd lv, cE, pos, B0⟩ = 
     some (⟨heap, gens, drawn, toks + 1, os⟩, ⟨(pyHashByItsType.reduced (hx x)).wrap K H gd lv, cE, pos, B0⟩) := by
  cases b
  · kernel_rfl!
  · kernel_rfl!
theorem hash_go (x : Int) (t : Nat) (heap : Heap) (gens : Array GenState) (drawn : Drawn) (toks : Nat) (os : OsState) (K : Int → Sem Fin) (H : Value → Sem Fin) (gd : Bool → Bool) (lv : List Value → List Value) (pos : Pos) :
    segGo treeTable prog w 28 ann0 1 5 ⟨heap, gens, drawn, toks, os⟩ ⟨(pyHash (.int x t)).wrap K H gd lv, cE, pos, B0⟩ = 
     some (⟨heap, gens, drawn, toks + 1, os⟩, ⟨(pyHashByItsType.reduced (hx x)).wrap K H gd lv, cE, pos, B0⟩) := by
  have := hash_go' (w := w) (w.params.followText "special-get-raises") x t heap gens drawn toks os K H gd lv pos
  rwa [World.withFollow_self] at this
theorem hx_of {k : Nat} (h : k < 2 ^ 60) : hx (k : Int) = k := by
  unfold hx
  have h1 : ¬ ((k : Int) < 0) := by omega
  have h2 : k % (2 ^ 61 - 1) = k := Nat.mod_eq_of_lt (by omega)
  have h3 : ((k : Int).natAbs : Int) % ((2 ^ 61 - 1 : Nat) : Int) = k := by omega
  simp only [h1, if_false]
  rw [h3]
  rw [if_neg]
  simp
theorem Ex.hash {k t : Nat} {s : Shared} (h : k < 2 ^ 60) : Ex w 5 (pyHash (.int (k : Int) t)) s { s with toks := s.toks + 1 } (k : Int) := ⟨fun K H gd lv pos => by
  obtain ⟨heap, gens, drawn, toks, os⟩ := s
  refine ⟨5, pos, Nat.le_refl _, ?_⟩
  rw [hash_go, hx_of h]
  have e : pyHashByItsType.reduced (k : Int) = .pure (k : Int) := by
    unfold pyHashByItsType.reduced
    rw [if_pos (by simp; omega), if_neg (by simp)]
    rfl
  rw [e]
  rfl⟩
end Hd
end Mine
end
section -- H10
open PySem PySem.W PyProof.Rows PySem.Calls
set_option Elab.async false
set_option linter.all false
set_option maxRecDepth 100000
namespace Mine
namespace Hd
variable {w : World} {s s' : Shared}
theorem Ex.entries {d : Addr} {q : Option Value} {es : List DictEntry} {n : Nat} (ho : s.heap.get? d = some (dictO es n)) : Ex w 1 (dictEntries d q) s s ⟨es⟩ := by
  unfold dictEntries loadPart
  refine Ex.le (c1 := (0 + 1) + 0) ?_ (by decide)
  exact Ex.bind (Ex.load ho (Ex.pure _)) (Ex.pure _)
theorem Ex.epoch {d : Addr} {q : Option Value} {es : List DictEntry} {n : Nat} (ho : s.heap.get? d = some (dictO es n)) : Ex w 1 (dictEpoch d q) s s n := by
  unfold dictEpoch loadPart
  refine Ex.le (c1 := (0 + 1) + 0) ?_ (by decide)
  exact Ex.bind (Ex.load ho (Ex.pure _)) (Ex.pure _)
theorem places_nil {es : List DictEntry} {h : Int} (hn : ∀ e ∈ es, e.hash ≠ h) : placesWithHash (⟨es⟩ : Array DictEntry).size (fun i => (⟨es⟩ : Array DictEntry)[i]?.map (·.hash)) h = [] := by
  unfold placesWithHash
  rw [List.filter_eq_nil_iff]
  intro i hi q
  simp only [List.getElem?_toArray, beq_iff_eq, Option.map_eq_some_iff] at q
  obtain ⟨e, he, hq⟩ := q
  exact hn e (List.mem_of_getElem? he) hq
theorem Ex.find {d : Addr} {k : Int} {t : Nat} {h : Int} {es : List DictEntry} {n : Nat} (ho : s.heap.get? d = some (dictO es n)) (hn : ∀ e ∈ es, e.hash ≠ h) : Ex w 1 (dictFind d (.int k t) h) s s none := by
  unfold dictFind
  refine Ex.le (c1 := 1 + 0) ?_ (by decide)
  refine Ex.holding ?_
  refine Ex.bind (Ex.entries ho) ?_
  dsimp only
  rw [places_nil hn]
  exact Ex.pure _
theorem Ex.pushKey {d : Addr} {q : Option Value} {es : List DictEntry} {n : Nat} {e : DictEntry} (hd : 28 ≤ d) (ho : s.heap.get? d = some (dictO es n)) (hz : es.length ≤ 1000) (hu : (s.heap.update d fun _ => dictO (es ++ [e]) (n + 1)).get? d = some (dictO (es ++ [e]) (n + 1)))
    (hup : s.heap.update d (Obj.mapDictKeys fun x => x.push e) = s.heap.update d fun _ => dictO (es ++ [e]) (n + 1)) :
    Ex w 3 (updateDictKeys d (fun x => x.push e) q) s { s with heap := s.heap.update d fun _ => dictO (es ++ [e]) (n + 1) } () := by
  unfold updateDictKeys loadPart updatePart lookBehind
  refine Ex.le (c1 := (0 + 1) + ((0 + 1) + ((0 + 1) + 0))) ?_ (by decide)
  refine Ex.bind (Ex.load ho (Ex.pure _)) ?_
  dsimp only [dictO]
  refine Ex.bind (Ex.update hd (by rw [ho]; rfl) (Ex.pure _)) ?_
  rw [hup]
  refine Ex.bind (Ex.load hu (Ex.pure _)) ?_
  dsimp only [dictO]
  rw [show (Data.dict (⟨es ++ [e]⟩ : Array DictEntry) (n + 1)).pastItsLine = none from ?_]
  · exact Ex.pure _
  · show (if _ then _ else _) = _
    rw [if_neg]
    show ¬ ((es ++ [e]).length > sizeLine + 1)
    rw [sizeLine_eq]
    simp; omega
end Hd
end Mine
end
section -- H11
open PySem PySem.W PyProof.Rows PySem.Calls
set_option Elab.async false
set_option linter.all false
set_option maxRecDepth 100000
namespace Mine
namespace Hd
variable {w : World} {s s' s1 s2 : Shared} {α β : Type} {c c1 c2 : Nat}
/-- h with x at a -/
noncomputable abbrev put (h : Heap) (a : Addr) (x : Obj) : Heap := h.update a fun _ => x
theorem objs_at {h : Heap} {a : Addr} {o : Obj} (e : h.get? a = some o) : h.objs[a]? = some o := by
  unfold Heap.get? at e
  split at e
  · cases e
  · exact e
theorem upd_const {h : Heap} {a : Addr} {o : Obj} {f : Obj → Obj} (e : h.get? a = some o) : h.update a f = put h a (f o) := by
  have e' := objs_at e
  obtain ⟨objs, l⟩ := h
  show Heap.mk _ _ = Heap.mk _ _
  congr 1
  apply Array.ext_getElem?
  intro i
  rw [Array.getElem?_modify, Array.getElem?_modify]
  by_cases hi : a = i
  · subst hi; simp only [if_true]; rw [show objs[a]? = some o from e']; rfl
  · simp [hi]
theorem put_put {h : Heap} {a : Addr} {x y : Obj} : put (put h a x) a y = put h a y := by
  obtain ⟨objs, l⟩ := h
  show Heap.mk _ _ = Heap.mk _ _
  congr 1
  apply Array.ext_getElem?
  intro i
  rw [Array.getElem?_modify, Array.getElem?_modify, Array.getElem?_modify]
  by_cases hi : a = i
  · subst hi; simp only [if_true]; cases objs[a]? <;> rfl
  · simp [hi]
theorem put_push {h : Heap} {x y : Obj} : put (h.push x) h.objs.size y = h.push y := by
  obtain ⟨objs, l⟩ := h
  show Heap.mk _ _ = Heap.mk _ _
  congr 1
  apply Array.ext_getElem?
  intro i
  rw [Array.getElem?_modify, Array.getElem?_push, Array.getElem?_push]
  by_cases hi : objs.size = i
  · subst hi; simp
  · simp [hi, Ne.symm hi]
theorem get_of {h : Heap} {a : Addr} {es : List DictEntry} {n : Nat} (e : h.objs[a]? = some (dictO es n)) : h.get? a = some (dictO es n) := by
  unfold Heap.get?
  rw [e]; rfl
theorem get_put {h : Heap} {a : Addr} {o : Obj} {es : List DictEntry} {n : Nat} (e : h.get? a = some o) : (put h a (dictO es n)).get? a = some (dictO es n) := by
  refine get_of ?_
  have e' := objs_at e
  obtain ⟨objs, l⟩ := h
  show (objs.modify a fun _ => dictO es n)[a]? = _
  rw [Array.getElem?_modify, show objs[a]? = some o from e']; simp
theorem get_put_ne {h : Heap} {a b : Addr} {x : Obj} (hne : b ≠ a) : (put h a x).get? b = h.get? b := Heap.get?_update_ne _ _ _ _ hne
theorem size_put {h : Heap} {a : Addr} {x : Obj} : (put h a x).objs.size = h.objs.size := by
  obtain ⟨objs, l⟩ := h
  show (objs.modify a fun _ => x).size = objs.size
  rw [Array.size_modify]
theorem size_push {h : Heap} {x : Obj} : (h.push x).objs.size = h.objs.size + 1 := by
  obtain ⟨objs, l⟩ := h
  show (objs.push x).size = objs.size + 1
  rw [Array.size_push]
theorem get_push {h : Heap} {es : List DictEntry} {n : Nat} : (h.push (dictO es n)).get? h.objs.size = some (dictO es n) := by
  refine get_of ?_
  obtain ⟨objs, l⟩ := h
  show (objs.push (dictO es n))[objs.size]? = _
  simp
theorem get_push_old {h : Heap} {x o : Obj} {a : Addr} (e : h.get? a = some o) : (h.push x).get? a = some o := Heap.get?_push_of_some _ e
/-- the sign of an entry -/
noncomputable def ent (k : Nat) (t : Nat) (v : Value) : DictEntry := ⟨(k : Int), .int (k : Int) t, v⟩
theorem mdk {es : List DictEntry} {n : Nat} {e : DictEntry} : Obj.mapDictKeys (fun x => x.push e) (dictO es n) = dictO (es ++ [e]) (n + 1) := by
  have h : (⟨es⟩ : Array DictEntry).push e = ⟨es ++ [e]⟩ := by simp
  show Obj.mk _ _ (.dict ((⟨es⟩ : Array DictEntry).push e) (n + 1)) _ = _
  rw [h]; rfl
theorem upd_push {h : Heap} {a : Addr} {es : List DictEntry} {n : Nat} {e : DictEntry} (ho : h.get? a = some (dictO es n)) : h.update a (Obj.mapDictKeys fun x => x.push e) = put h a (dictO (es ++ [e]) (n + 1)) := by
  rw [upd_const ho, mdk]
theorem Ex.set {d : Addr} {k t : Nat} {v : Value} {es : List DictEntry} {n : Nat} (hd : 28 ≤ d) (ho : s.heap.get? d = some (dictO es n)) (hz : es.length ≤ 1000) (hn : ∀ e ∈ es, e.hash ≠ (k : Int)) (hk : k < 2 ^ 60) :
    Ex w 10 (dictSet d (.int (k : Int) t) v) s { s with heap := put s.heap d (dictO (es ++ [ent k t v]) (n + 1)), toks := s.toks + 1 } () := by
  unfold dictSet
  refine Ex.le (c1 := 5 + (1 + ((0 + 1) + 3))) ?_ (by decide)
  refine Ex.holding (Ex.bind (Ex.hash hk) ?_)
  unfold dictSetHashed
  refine Ex.holding (Ex.bind (Ex.find (s := { s with toks := s.toks + 1 }) ho hn) ?_)
  dsimp only
  refine Ex.bind (Ex.rule (Ex.pure _)) ?_
  exact Ex.pushKey (s := { s with toks := s.toks + 1 }) (e := ent k t v) hd ho hz (get_put ho) (upd_push ho)
theorem Ex.putKey {d : Addr} {k t : Nat} {v : Value} {es : List DictEntry} {n : Nat} (hd : 28 ≤ d) (ho : s.heap.get? d = some (dictO es n)) (hz : es.length ≤ 1000) (hn : ∀ e ∈ es, e.hash ≠ (k : Int)) :
    Ex w 4 (dictPut d (k : Int) (.int (k : Int) t) v) s { s with heap := put s.heap d (dictO (es ++ [ent k t v]) (n + 1)) } () := by
  unfold dictPut
  refine Ex.le (c1 := 1 + 3) ?_ (by decide)
  refine Ex.bind (Ex.find ho hn) ?_
  dsimp only
  exact Ex.pushKey (e := ent k t v) hd ho hz (get_put ho) (upd_push ho)
theorem Ex.forIn_nil {b : β} {f : α → β → Sem (ForInStep β)} : Ex w 0 (forIn ([] : List α) b f) s s b := by rw [List.forIn_nil]; exact Ex.pure _
theorem Ex.forIn_cons {x : α} {xs : List α} {b b1 r : β} {f : α → β → Sem (ForInStep β)} (h1 : Ex w c1 (f x b) s s1 (.yield b1)) (h2 : Ex w c2 (forIn xs b1 f) s1 s' r) : Ex w (c1 + c2) (forIn (x :: xs) b f) s s' r := by
  rw [List.forIn_cons]; exact Ex.bind h1 h2
noncomputable def feed (o : Obj) (S : Setting) : Nat → Sem α → List Addr → Sem α × List Addr
  | 0, m, l => (m, l)
  | n + 1, m, l => match m with
    | .load a _ k => feed o S n (k o) (a :: l)
    | .rule _ k => feed o S n (k ()) l
    | .ask k => feed o S n (k S) l
    | m => (m, l)
theorem feed_base {r : α} {m m' : Sem α} {l l' : List Addr} (n : Nat) (h : (m, l) = (m', l')) (hx : Ex w c m' s s' r) : Ex w (n + c) m s s' r ∧ ∀ a ∈ l, a ∈ l' := by
  cases h
  exact ⟨hx.le (Nat.le_add_left _ _), fun _ q => q⟩
theorem feed_ex {o : Obj} {r : α} : ∀ (n : Nat) (m : Sem α) (l : List Addr) {m' : Sem α} {l' : List Addr}, feed o ⟨prog, w.params⟩ n m l = (m', l') → (∀ a ∈ l', s.heap.get? a = some o) → Ex w c m' s s' r → Ex w (n + c) m s s' r ∧ ∀ a ∈ l, a ∈ l'
  | 0, _, _, _, _, h, _, hx => feed_base 0 h hx
  | n + 1, m, l, m', l', h, ha, hx => by
    cases m
    case load a q k =>
      obtain ⟨h1, h2⟩ := feed_ex n (k o) (a :: l) h ha hx
      exact ⟨(Ex.load (ha _ (h2 _ List.mem_cons_self)) h1).le (by omega), fun b q => h2 _ (List.mem_cons_of_mem _ q)⟩
    case rule t k =>
      obtain ⟨h1, h2⟩ := feed_ex n (k ()) l h ha hx
      exact ⟨(Ex.rule h1).le (by omega), h2⟩
    case ask k =>
      obtain ⟨h1, h2⟩ := feed_ex n (k ⟨prog, w.params⟩) l h ha hx
      exact ⟨(Ex.ask h1).le (by omega), h2⟩
    all_goals exact feed_base (n + 1) h hx
end Hd
end Mine
end
section -- H12
open PySem PySem.W PyProof.Rows PySem.Calls
set_option Elab.async false
set_option linter.all false
set_option maxRecDepth 100000
namespace Mine
namespace Hd
variable {w : World} {s s' s1 s2 : Shared} {α β : Type} {c c1 c2 : Nat}
theorem isdict_feed (a : Addr) (es : List DictEntry) (n : Nat) (S : Setting) : feed (dictO es n) S 20 (isInstance (.ref a) (.type "dict")) [] = (.pure true, [a]) := by
  kernel_rfl!
theorem iter_feed (a : Addr) (es : List DictEntry) (n : Nat) (S : Setting) : feed (dictO es n) S 20 (specialOf (.ref a) (Str.ofString "__iter__")) [] = (.pure (some (.builtin "dict.__iter__")), [a]) := by
  kernel_rfl!
/-- a pair of trees that yields an entry of the table -/
structure PairOk (w : World) (p : Sem Value × Sem Value) (e : Nat × List Nat) : Prop where
  key : ∀ s : Shared, Ex w 1 p.1 s { s with toks := s.toks + 1 } (.int (e.1 : Int) s.toks)
  val : ∀ s : Shared, Ex w 2 p.2 s { s with toks := s.toks + 1 } (.str ⟨⟨e.2⟩⟩ s.toks)
inductive Pairs (w : World) : List (Sem Value × Sem Value) → List (Nat × List Nat) → Prop
  | nil : Pairs w [] []
  | cons {p ps e T} (h : PairOk w p e) (t : Pairs w ps T) : Pairs w (p :: ps) (e :: T)
theorem Pairs.length {ps T} (h : Pairs w ps T) : ps.length = T.length := by induction h with | nil => rfl | cons _ _ ih => simp [ih]
theorem put_same {h : Heap} {a : Addr} {o : Obj} (e : h.get? a = some o) : put h a o = h := by
  have e' := objs_at e
  obtain ⟨objs, l⟩ := h
  show Heap.mk _ _ = Heap.mk _ _
  congr 1
  apply Array.ext_getElem?
  intro i
  rw [Array.getElem?_modify]
  by_cases hi : a = i
  · subst hi; simp only [if_true]; rw [show objs[a]? = some o from e']; rfl
  · simp [hi]
/-- keys that the dict has not -/
noncomputable def Free (es : List DictEntry) (T : List (Nat × List Nat)) : Prop := (∀ e ∈ es, ∀ p ∈ T, e.hash ≠ (p.1 : Int)) ∧ (T.map (·.1)).Nodup ∧ ∀ p ∈ T, p.1 < 2 ^ 60
theorem Free.head {es : List DictEntry} {e : Nat × List Nat} {T : List (Nat × List Nat)} (f : Free es (e :: T)) (t : Nat) (v : Value) : (∀ x ∈ es, x.hash ≠ (e.1 : Int)) ∧ e.1 < 2 ^ 60 ∧ Free (es ++ [ent e.1 t v]) T := by
  obtain ⟨a, b, c⟩ := f
  rw [List.map_cons, List.nodup_cons] at b
  refine ⟨fun x hx => a x hx e List.mem_cons_self, c e List.mem_cons_self, fun x hx p hp => ?_, b.2, fun p hp => c p (List.mem_cons_of_mem _ hp)⟩
  rcases List.mem_append.mp hx with q | q
  · exact a x q p (List.mem_cons_of_mem _ hp)
  · rw [List.mem_singleton.mp q]
    show (e.1 : Int) ≠ p.1
    intro z
    exact b.1 (List.mem_map.mpr ⟨p, hp, by omega⟩)
theorem ex_long {d : Addr} (hd : 28 ≤ d) : ∀ {ps : List (Sem Value × Sem Value)} {T : List (Nat × List Nat)} {s : Shared} {es : List DictEntry} {n : Nat}, Pairs w ps T → s.heap.get? d = some (dictO es n) → es.length + T.length ≤ 1000 → Free es T →
    Ex w (13 * T.length) (forIn ps PUnit.unit fun (x : Sem Value × Sem Value) (__s : PUnit) => match x with
      | (k, v) => do
        let kv ← k
        let vv ← holding [kv] v
        holding [kv, vv] (dictSet d kv vv)
        pure (ForInStep.yield PUnit.unit)) s { s with heap := put s.heap d (dictO (es ++ entsFrom s.toks T) (n + T.length)), toks := s.toks + 3 * T.length } PUnit.unit
  | _, _, s, es, n, .nil, ho, hz, hf => by
    show Ex w 0 _ s { s with heap := put s.heap d (dictO (es ++ []) (n + 0)), toks := s.toks + 0 } _
    rw [List.append_nil, Nat.add_zero, put_same ho]
    exact Ex.forIn_nil
  | _, _, s, es, n, .cons (p := p) (ps := ps) (e := e) (T := T) h t, ho, hz, hf => by
    obtain ⟨hn, hk, hf'⟩ := hf.head s.toks (.str ⟨⟨e.2⟩⟩ (s.toks + 1))
    simp only [List.length_cons] at hz
    refine Ex.le (c1 := 13 + 13 * T.length) ?_ (by simp; omega)
    refine Ex.forIn_cons (b1 := PUnit.unit) (s1 := { s with heap := put s.heap d (dictO (es ++ [ent e.1 s.toks (.str ⟨⟨e.2⟩⟩ (s.toks + 1))]) (n + 1)), toks := s.toks + 3 }) ?_ ?_
    · refine Ex.le (c1 := 1 + (2 + (10 + 0))) ?_ (by decide)
      refine Ex.bind (h.key s) (Ex.bind (Ex.holding (h.val _)) (Ex.bind (Ex.holding (Ex.set (s := { s with toks := s.toks + 1 + 1 }) hd ho (by omega) hn hk)) (Ex.pure _)))
    · have := ex_long hd t (s := { s with heap := put s.heap d (dictO (es ++ [ent e.1 s.toks (.str ⟨⟨e.2⟩⟩ (s.toks + 1))]) (n + 1)), toks := s.toks + 3 }) (get_put ho) (by simp; omega) hf'
      rw [show n + (e :: T).length = n + 1 + T.length by simp; omega, show s.toks + 3 * (e :: T).length = s.toks + 3 + 3 * T.length by simp; omega]
      have e2 : es ++ entsFrom s.toks (e :: T) = es ++ [ent e.1 s.toks (.str ⟨⟨e.2⟩⟩ (s.toks + 1))] ++ entsFrom (s.toks + 3) T := by rw [List.append_assoc]; rfl
      rw [e2]
      simp only [put_put] at this
      exact this
theorem ex_subLong {ps : List (Sem Value × Sem Value)} {T : List (Nat × List Nat)} (hp : Pairs w ps T) (h16 : 15 < T.length) (hz : T.length ≤ 1000) (hf : Free [] T) (hs : 28 ≤ s.heap.objs.size) :
    Ex w (2 + 13 * T.length) (subDict ps) s { s with heap := s.heap.push (dictO (entsFrom s.toks T) T.length), toks := s.toks + 3 * T.length } s.heap.objs.size := by
  unfold subDict alloc
  refine Ex.le (c1 := (0 + 1) + (((0 + 1) + (13 * T.length + 0)) + 0)) ?_ (by omega)
  refine Ex.bind (Ex.alloc (Ex.pure _)) (Ex.bind (a := ()) (Ex.holding ?_) (Ex.pure _))
  rw [if_neg (by rw [hp.length]; omega)]
  refine Ex.bind (Ex.rule (Ex.pure _)) ?_
  have := ex_long (w := w) (d := s.heap.objs.size) hs hp (s := { s with heap := s.heap.push (dictO [] 0) }) get_push (by simpa using hz) hf
  rw [put_push, Nat.zero_add, List.nil_append] at this
  exact Ex.bind this (Ex.pure _)
end Hd
end Mine
end
section -- H13
open PySem PySem.W PyProof.Rows PySem.Calls
set_option Elab.async false
set_option linter.all false
set_option maxRecDepth 100000
namespace Mine
namespace Hd
variable {w : World} {s s' s1 s2 : Shared} {α β : Type} {c c1 c2 : Nat}
/-- keys and values of a short run -/
noncomputable def pairsFrom : Nat → List (Nat × List Nat) → List (Value × Value)
  | _, [] => []
  | n, (k, v) :: r => (.int (k : Int) n, .str ⟨⟨v⟩⟩ (n + 1)) :: pairsFrom (n + 2) r
theorem ex_pairs : ∀ {ps : List (Sem Value × Sem Value)} {T : List (Nat × List Nat)} {s : Shared}, Pairs w ps T → Ex w (3 * T.length) (evalPairs ps) s { s with toks := s.toks + 2 * T.length } (pairsFrom s.toks T)
  | _, _, s, .nil => Ex.pure _
  | _, _, s, .cons (p := p) (ps := ps) (e := e) (T := T) h t => by
    obtain ⟨k, v⟩ := p
    unfold evalPairs
    have := ex_pairs t (s := { s with toks := s.toks + 2 })
    rw [show s.toks + 2 * (e :: T).length = s.toks + 2 + 2 * T.length by simp; omega]
    refine Ex.le (c1 := 1 + (2 + (3 * T.length + 0))) ?_ (by simp; omega)
    exact Ex.bind (h.key s) (Ex.bind (Ex.holding (h.val _)) (Ex.bind (Ex.holding this) (Ex.pure _)))
theorem ex_short {d : Addr} (hd : 28 ≤ d) : ∀ {T : List (Nat × List Nat)} {m : Nat} {s : Shared} {es : List DictEntry} {n : Nat}, s.heap.get? d = some (dictO es n) → es.length + T.length ≤ 1000 → Free es T →
    Ex w (10 * T.length) (forIn (pairsFrom m T) PUnit.unit fun (x : Value × Value) (__s : PUnit) => match x with
      | (k, v) => do
        dictSet d k v
        pure (ForInStep.yield PUnit.unit)) s { s with heap := put s.heap d (dictO (es ++ entsShort m T) (n + T.length)), toks := s.toks + T.length } PUnit.unit
  | [], m, s, es, n, ho, hz, hf => by
    show Ex w 0 _ s { s with heap := put s.heap d (dictO (es ++ []) (n + 0)), toks := s.toks + 0 } _
    rw [List.append_nil, Nat.add_zero, put_same ho]
    exact Ex.forIn_nil
  | e :: T, m, s, es, n, ho, hz, hf => by
    obtain ⟨hn, hk, hf'⟩ := hf.head m (.str ⟨⟨e.2⟩⟩ (m + 1))
    simp only [List.length_cons] at hz
    refine Ex.le (c1 := (10 + 0) + 10 * T.length) ?_ (by simp; omega)
    refine Ex.forIn_cons (b1 := PUnit.unit) (s1 := { s with heap := put s.heap d (dictO (es ++ [ent e.1 m (.str ⟨⟨e.2⟩⟩ (m + 1))]) (n + 1)), toks := s.toks + 1 }) ?_ ?_
    · exact Ex.bind (Ex.set hd ho (by omega) hn hk) (Ex.pure _)
    · have := ex_short hd (m := m + 2) (T := T) (s := { s with heap := put s.heap d (dictO (es ++ [ent e.1 m (.str ⟨⟨e.2⟩⟩ (m + 1))]) (n + 1)), toks := s.toks + 1 }) (get_put ho) (by simp; omega) hf'
      rw [show n + (e :: T).length = n + 1 + T.length by simp; omega, show s.toks + (e :: T).length = s.toks + 1 + T.length by simp; omega]
      have e2 : es ++ entsShort m (e :: T) = es ++ [ent e.1 m (.str ⟨⟨e.2⟩⟩ (m + 1))] ++ entsShort (m + 2) T := by rw [List.append_assoc]; rfl
      rw [e2]
      simp only [put_put] at this
      exact this
theorem ex_subShort {ps : List (Sem Value × Sem Value)} {T : List (Nat × List Nat)} (hp : Pairs w ps T) (h16 : T.length ≤ 15) (hf : Free [] T) (hs : 28 ≤ s.heap.objs.size) :
    Ex w (1 + 13 * T.length) (subDict ps) s { s with heap := s.heap.push (dictO (entsShort s.toks T) T.length), toks := s.toks + 3 * T.length } s.heap.objs.size := by
  unfold subDict alloc
  refine Ex.le (c1 := (0 + 1) + ((3 * T.length + (10 * T.length + 0)) + 0)) ?_ (by omega)
  refine Ex.bind (Ex.alloc (Ex.pure _)) (Ex.bind (a := ()) (Ex.holding ?_) (Ex.pure _))
  rw [if_pos (by rw [hp.length]; omega)]
  refine Ex.bind (ex_pairs hp) (Ex.holding ?_)
  have := ex_short (w := w) (d := s.heap.objs.size) (m := s.toks) (T := T) hs (s := { s with heap := s.heap.push (dictO [] 0), toks := s.toks + 2 * T.length }) get_push (by simp; omega) hf
  rw [put_push, Nat.zero_add, List.nil_append] at this
  rw [show s.toks + 3 * T.length = s.toks + 2 * T.length + T.length by omega]
  exact Ex.bind this (Ex.pure _)
/-- one dict put into another -/
theorem ex_mergeLoop {d a : Addr} (hd : 28 ≤ d) (hda : a ≠ d) {F : List DictEntry} {m : Nat} : ∀ (E : List DictEntry) (pre : List DictEntry) {s : Shared} {es : List DictEntry} {n : Nat}, F = pre ++ E → s.heap.get? a = some (dictO F m) → s.heap.get? d = some (dictO es n) → es.length + E.length ≤ 1000 →
    (∀ e ∈ E, ∃ (k t : Nat) (v : List Nat) (u : Nat), e = ent k t (.str ⟨⟨v⟩⟩ u)) → (∀ e ∈ es, ∀ p ∈ E, e.hash ≠ p.hash) → (E.map (·.hash)).Nodup →
    Ex w (6 * E.length) (forIn (List.range' pre.length E.length) PUnit.unit fun (i : Nat) (__s : PUnit) => do
      let __do_lift ← dictEntries a
      match __do_lift[i]? with
        | some e => do
          holding [e.key, e.val] (dictPut d e.hash e.key e.val)
          let __do_lift ← dictEpoch a
          if (__do_lift != m) = true then do
              unsupported "dict.changed-during-merge"
              pure (ForInStep.yield PUnit.unit)
            else pure (ForInStep.yield PUnit.unit)
        | x => do
          unsupported "dict.changed-during-merge"
          pure (ForInStep.yield PUnit.unit)) s { s with heap := put s.heap d (dictO (es ++ E) (n + E.length)) } PUnit.unit
  | [], pre, s, es, n, hF, ha, ho, hz, hE, hn, hnd => by
    show Ex w 0 _ s { s with heap := put s.heap d (dictO (es ++ []) (n + 0)) } _
    rw [List.append_nil, Nat.add_zero, put_same ho]
    exact Ex.forIn_nil
  | e :: E, pre, s, es, n, hF, ha, ho, hz, hE, hn, hnd => by
    obtain ⟨k, t, v, u, rfl⟩ := hE e List.mem_cons_self
    simp only [List.length_cons] at hz
    rw [List.map_cons, List.nodup_cons] at hnd
    rw [List.length_cons, List.range'_succ]
    refine Ex.le (c1 := (1 + (4 + (1 + 0))) + 6 * E.length) ?_ (by omega)
    refine Ex.forIn_cons (b1 := PUnit.unit) (s1 := { s with heap := put s.heap d (dictO (es ++ [ent k t (.str ⟨⟨v⟩⟩ u)]) (n + 1)) }) ?_ ?_
    · refine Ex.bind (Ex.entries ha) ?_
      have hi : (⟨F⟩ : Array DictEntry)[pre.length]? = some (ent k t (.str ⟨⟨v⟩⟩ u)) := by
        rw [List.getElem?_toArray, hF]; simp
      rw [hi]
      refine Ex.bind (Ex.holding (Ex.putKey hd ho (by omega) fun x hx => hn x hx _ List.mem_cons_self)) ?_
      refine Ex.bind (Ex.epoch (es := F) (n := m) (by rw [get_put_ne hda]; exact ha)) ?_
      rw [if_neg (by simp)]
      exact Ex.pure _
    · have := ex_mergeLoop (F := F) hd hda E (pre ++ [ent k t (.str ⟨⟨v⟩⟩ u)]) (s := { s with heap := put s.heap d (dictO (es ++ [ent k t (.str ⟨⟨v⟩⟩ u)]) (n + 1)) }) (by rw [hF, List.append_assoc]; rfl) (by rw [get_put_ne hda]; exact ha) (get_put ho) (by simp; omega) (fun x hx => hE x (List.mem_cons_of_mem _ hx))
        (fun x hx p hp => by
          rcases List.mem_append.mp hx with q | q
          · exact hn x q p (List.mem_cons_of_mem _ hp)
          · rw [List.mem_singleton.mp q]
            intro z
            exact hnd.1 (List.mem_map.mpr ⟨p, hp, z.symm⟩)) hnd.2
      rw [List.length_append, List.length_singleton] at this
      rw [show n + (E.length + 1) = n + 1 + E.length by omega, show es ++ ent k t (.str ⟨⟨v⟩⟩ u) :: E = es ++ [ent k t (.str ⟨⟨v⟩⟩ u)] ++ E by simp]
      simp only [put_put] at this
      exact this
theorem ex_merge {d a : Addr} (hd : 28 ≤ d) (hda : a ≠ d) (ha1 : a ≠ sysModules) {F es : List DictEntry} {m n : Nat} (ha : s.heap.get? a = some (dictO F m)) (ho : s.heap.get? d = some (dictO es n)) (hz : es.length + F.length ≤ 1000) (h0 : es ≠ [])
    (hE : ∀ e ∈ F, ∃ (k t : Nat) (v : List Nat) (u : Nat), e = ent k t (.str ⟨⟨v⟩⟩ u)) (hn : ∀ e ∈ es, ∀ p ∈ F, e.hash ≠ p.hash) (hnd : (F.map (·.hash)).Nodup) :
    Ex w (50 + 6 * F.length) (mergeMapping d (.ref a) false) s { s with heap := put s.heap d (dictO (es ++ F) (n + F.length)) } () := by
  unfold mergeMapping
  refine Ex.le (c1 := (20 + 0) + ((20 + 0) + (0 + (1 + (1 + (1 + (6 * F.length + 0))))))) ?_ (by omega)
  refine Ex.bind (a := true) (feed_ex 20 _ [] (isdict_feed a F m _) (by simpa using ha) (Ex.pure _)).1 ?_
  rw [if_pos rfl]
  refine Ex.bind (feed_ex 20 _ [] (iter_feed a F m _) (by simpa using ha) (Ex.pure _)).1 ?_
  refine Ex.bind (Ex.pure _) ?_
  rw [show ((some (Value.builtin "dict.__iter__")) == some (.builtin "dict.__iter__")) = true by decide]
  dsimp only
  rw [if_neg (by simpa using ha1)]
  refine Ex.bind (Ex.entries ho) ?_
  rw [if_neg (by cases es with | nil => exact absurd rfl h0 | cons => simp)]
  refine Ex.bind (Ex.entries ha) (Ex.bind (Ex.epoch ha) ?_)
  have := ex_mergeLoop (w := w) hd hda F [] (F := F) rfl ha ho hz hE hn hnd
  refine Ex.bind (a := PUnit.unit) ?_ (Ex.pure _)
  rw [List.range_eq_range']
  exact this
end Hd
end Mine
end
section -- H14
open PySem PySem.W PyProof.Rows PySem.Calls
set_option Elab.async false
set_option linter.all false
set_option maxRecDepth 100000
namespace Mine
namespace Hd
variable {w : World} {s s' s1 s2 : Shared} {α β : Type} {c c1 c2 : Nat}
theorem ents_append : ∀ (A B : List (Nat × List Nat)) (t : Nat), entsFrom t (A ++ B) = entsFrom t A ++ entsFrom (t + 3 * A.length) B
  | [], B, t => rfl
  | e :: A, B, t => by
    rw [List.cons_append]
    show _ :: entsFrom (t + 3) (A ++ B) = _ :: (entsFrom (t + 3) A ++ _)
    rw [ents_append A B (t + 3), show t + 3 * (e :: A).length = t + 3 + 3 * A.length by simp; omega]
theorem ents_length : ∀ (A : List (Nat × List Nat)) (t : Nat), (entsFrom t A).length = A.length
  | [], t => rfl
  | e :: A, t => by show (entsFrom (t + 3) A).length + 1 = _; rw [ents_length A]; rfl
theorem ents_hash : ∀ (A : List (Nat × List Nat)) (t : Nat), (entsFrom t A).map (·.hash) = A.map fun p => (p.1 : Int)
  | [], t => rfl
  | e :: A, t => by show _ :: (entsFrom (t + 3) A).map _ = _; rw [ents_hash A]; rfl
theorem ents_shape : ∀ (A : List (Nat × List Nat)) (t : Nat), ∀ e ∈ entsFrom t A, ∃ (k t : Nat) (v : List Nat) (u : Nat), e = ent k t (.str ⟨⟨v⟩⟩ u)
  | [], t, e, h => nomatch h
  | x :: A, t, e, h => by
    rcases List.mem_cons.mp (show e ∈ _ :: entsFrom (t + 3) A from h) with q | q
    · exact ⟨_, _, _, _, q⟩
    · exact ents_shape A (t + 3) e q
theorem short_hash : ∀ (A : List (Nat × List Nat)) (t : Nat), (entsShort t A).map (·.hash) = A.map fun p => (p.1 : Int)
  | [], t => rfl
  | e :: A, t => by show _ :: (entsShort (t + 2) A).map _ = _; rw [short_hash A]; rfl
theorem short_length : ∀ (A : List (Nat × List Nat)) (t : Nat), (entsShort t A).length = A.length
  | [], t => rfl
  | e :: A, t => by show (entsShort (t + 2) A).length + 1 = _; rw [short_length A]; rfl
theorem short_shape : ∀ (A : List (Nat × List Nat)) (t : Nat), ∀ e ∈ entsShort t A, ∃ (k t : Nat) (v : List Nat) (u : Nat), e = ent k t (.str ⟨⟨v⟩⟩ u)
  | [], t, e, h => nomatch h
  | x :: A, t, e, h => by
    rcases List.mem_cons.mp (show e ∈ _ :: entsShort (t + 2) A from h) with q | q
    · exact ⟨_, _, _, _, q⟩
    · exact short_shape A (t + 2) e q
/-- the loop of the display -/
noncomputable abbrev Itm := Option (Sem Value) × Sem Value
noncomputable abbrev Stt := Option Addr × List (Sem Value × Sem Value)
noncomputable def items (ps : List (Sem Value × Sem Value)) : List Itm := ps.map fun p => (some p.1, p.2)
structure Loop (w : World) (f : Itm → Stt → Sem (ForInStep Stt)) (flush : List (Sem Value × Sem Value) → Option Addr → Sem (Option Addr)) : Prop where
  less : ∀ (s : Shared) main run k v, run.length + 1 ≠ 17 → Ex w 0 (f (some k, v) (main, run)) s s (.yield (main, run ++ [(k, v)]))
  full : ∀ (c : Nat) (s s' : Shared) main run k v main', run.length + 1 = 17 → Ex w c (flush (run ++ [(k, v)]) main) s s' main' → Ex w c (f (some k, v) (main, run)) s s' (.yield (main', []))
  first : ∀ (c : Nat) (s s' : Shared) run a, run ≠ [] → Ex w c (subDict run) s s' a → Ex w c (flush run none) s s' (some a)
  next : ∀ (c1 c2 : Nat) (s s1 s' : Shared) run d a, run ≠ [] → Ex w c1 (subDict run) s s1 a → Ex w c2 (mergeMapping d (.ref a) false) s1 s' () → Ex w (c1 + c2) (flush run (some d)) s s' (some d)
variable {f : Itm → Stt → Sem (ForInStep Stt)} {flush : List (Sem Value × Sem Value) → Option Addr → Sem (Option Addr)}
theorem loop_less (L : Loop w f flush) {k : Nat} : ∀ (c : List (Sem Value × Sem Value)) {rest : List Itm} {main : Option Addr} {run : List (Sem Value × Sem Value)} {r : Stt}, run.length + c.length < 17 → Ex w k (forIn rest (main, run ++ c) f) s s' r → Ex w k (forIn (items c ++ rest) (main, run) f) s s' r
  | [], rest, main, run, r, h, x => by rw [List.append_nil] at x; exact x
  | p :: c, rest, main, run, r, h, x => by
    simp only [List.length_cons] at h
    refine Ex.le (c1 := 0 + k) ?_ (by omega)
    refine Ex.forIn_cons (L.less s main run p.1 p.2 (by omega)) ?_
    refine loop_less L c (run := run ++ [(p.1, p.2)]) (by simp; omega) ?_
    rw [List.append_assoc]
    exact x
theorem loop_full (L : Loop w f flush) {c : List (Sem Value × Sem Value)} (hc : c.length = 17) {rest : List Itm} {main main' : Option Addr} {r : Stt} (hf : Ex w c1 (flush c main) s s1 main') (x : Ex w c2 (forIn rest (main', []) f) s1 s' r) : Ex w (c1 + c2) (forIn (items c ++ rest) (main, []) f) s s' r := by
  obtain ⟨c', p, rfl⟩ : ∃ c' p, c = c' ++ [p] := ⟨c.dropLast, c.getLast (by intro z; simp [z] at hc), (List.dropLast_concat_getLast _).symm⟩
  simp only [List.length_append, List.length_singleton] at hc
  rw [show items (c' ++ [p]) ++ rest = items c' ++ ((some p.1, p.2) :: rest) by simp [items]]
  refine loop_less L c' (by simp; omega) ?_
  rw [List.nil_append]
  exact Ex.forIn_cons (L.full c1 s s1 main c' p.1 p.2 main' (by omega) hf) x
theorem Pairs.take {ps T} (h : Pairs w ps T) : ∀ n, Pairs w (ps.take n) (T.take n) := by
  induction h with
  | nil => intro n; simp; exact .nil
  | cons a b ih => intro n; cases n with
    | zero => simp; exact .nil
    | succ n => simpa using .cons a (ih n)
theorem Pairs.drop {ps T} (h : Pairs w ps T) : ∀ n, Pairs w (ps.drop n) (T.drop n) := by
  induction h with
  | nil => intro n; simp; exact .nil
  | cons a b ih => intro n; cases n with
    | zero => exact .cons a b
    | succ n => simpa using ih n
/-- the chunk of a table -/
noncomputable def chk (T : List (Nat × List Nat)) (j : Nat) : List (Nat × List Nat) := (T.drop (17 * j)).take 17
noncomputable def Hj (h0 : Heap) (t : Nat) (T : List (Nat × List Nat)) : Nat → Heap
  | 0 => h0.push (dictO (entsFrom t (T.take 17)) 17)
  | j + 1 => put ((Hj h0 t T j).push (dictO (entsFrom (t + 51 * (j + 1)) (chk T (j + 1))) 17)) h0.objs.size (dictO (entsFrom t (T.take (17 * (j + 2)))) (17 * (j + 2)))
theorem Hj_size {h0 : Heap} {t : Nat} {T : List (Nat × List Nat)} : ∀ j, (Hj h0 t T j).objs.size = h0.objs.size + j + 1
  | 0 => by unfold Hj; rw [size_push]
  | j + 1 => by unfold Hj; rw [size_put, size_push, Hj_size j]; omega
theorem Hj_get {h0 : Heap} {t : Nat} {T : List (Nat × List Nat)} : ∀ j, (Hj h0 t T j).get? h0.objs.size = some (dictO (entsFrom t (T.take (17 * (j + 1)))) (17 * (j + 1)))
  | 0 => by unfold Hj; exact get_push
  | j + 1 => by unfold Hj; exact get_put (get_push_old (Hj_get j))
theorem chk_free {T : List (Nat × List Nat)} (hn : (T.map (·.1)).Nodup) (hk : ∀ p ∈ T, p.1 < 2 ^ 60) (j : Nat) : Free [] (chk T j) :=
  ⟨fun e he => (nomatch he), (hn.sublist ((((List.take_sublist _ _).trans (List.drop_sublist _ _))).map _)), fun p hp => hk p (((List.take_sublist _ _).trans (List.drop_sublist _ _)).subset hp)⟩
theorem take_chk (T : List (Nat × List Nat)) (j : Nat) : T.take (17 * (j + 1)) ++ chk T (j + 1) = T.take (17 * (j + 2)) := by
  unfold chk
  rw [show 17 * (j + 2) = 17 * (j + 1) + 17 by omega, List.take_add]
theorem hash_apart {A B : List (Nat × List Nat)} {E F : List DictEntry} (hn : ((A ++ B).map (·.1)).Nodup) (hE : E.map (·.hash) = A.map fun p => (p.1 : Int)) (hF : F.map (·.hash) = B.map fun p => (p.1 : Int)) : (∀ e ∈ E, ∀ p ∈ F, e.hash ≠ p.hash) ∧ (F.map (·.hash)).Nodup := by
  rw [List.map_append, List.nodup_append] at hn
  obtain ⟨h1, h2, h3⟩ := hn
  refine ⟨fun e he p hp z => ?_, ?_⟩
  · have a : e.hash ∈ A.map fun p => (p.1 : Int) := hE ▸ List.mem_map.mpr ⟨e, he, rfl⟩
    have b : p.hash ∈ B.map fun p => (p.1 : Int) := hF ▸ List.mem_map.mpr ⟨p, hp, rfl⟩
    obtain ⟨x, hx, ex⟩ := List.mem_map.mp a
    obtain ⟨y, hy, ey⟩ := List.mem_map.mp b
    exact h3 _ (List.mem_map.mpr ⟨x, hx, rfl⟩) _ (List.mem_map.mpr ⟨y, hy, rfl⟩) (by omega)
  · rw [hF]
    have : (B.map fun p => (p.1 : Int)) = (B.map (·.1)).map fun (n : Nat) => (n : Int) := by rw [List.map_map]; rfl
    rw [this, List.nodup_iff_pairwise_ne, List.pairwise_map]
    rw [List.nodup_iff_pairwise_ne] at h2
    exact h2.imp fun q z => q (by omega)
theorem chunk_step (L : Loop w f flush) {h0 : Heap} {t : Nat} {T : List (Nat × List Nat)} {ps : List (Sem Value × Sem Value)} (hp : Pairs w ps T) (hn : (T.map (·.1)).Nodup) (hk : ∀ p ∈ T, p.1 < 2 ^ 60) (hz : T.length ≤ 700) (h28 : 28 ≤ h0.objs.size) {s : Shared} {j : Nat} (hl : 17 * (j + 2) ≤ T.length) :
    Ex w 400 (flush ((ps.drop (17 * (j + 1))).take 17) (some h0.objs.size)) { s with heap := Hj h0 t T j, toks := t + 51 * (j + 1) } { s with heap := Hj h0 t T (j + 1), toks := t + 51 * (j + 2) } (some h0.objs.size) := by
  have hpc : Pairs w ((ps.drop (17 * (j + 1))).take 17) (chk T (j + 1)) := (hp.drop _).take _
  have hcl : (chk T (j + 1)).length = 17 := by unfold chk; rw [List.length_take, List.length_drop]; omega
  refine Ex.le (c1 := (2 + 13 * 17) + (50 + 6 * 17)) ?_ (by decide)
  refine L.next _ _ _ { s with heap := (Hj h0 t T j).push (dictO (entsFrom (t + 51 * (j + 1)) (chk T (j + 1))) 17), toks := t + 51 * (j + 2) } _ _ _ (Hj h0 t T j).objs.size (fun z => ?_) ?_ ?_
  · have := hpc.length; rw [z, hcl] at this; cases this
  · have := ex_subLong (s := { s with heap := Hj h0 t T j, toks := t + 51 * (j + 1) }) hpc (by omega) (by omega) (chk_free hn hk _) (by show 28 ≤ (Hj h0 t T j).objs.size; rw [Hj_size]; omega)
    rw [hcl] at this
    rw [show t + 51 * (j + 2) = t + 51 * (j + 1) + 3 * 17 by omega]
    exact this
  · have h1 := hash_apart (A := T.take (17 * (j + 1))) (B := chk T (j + 1)) (E := entsFrom t (T.take (17 * (j + 1)))) (F := entsFrom (t + 51 * (j + 1)) (chk T (j + 1))) (by rw [take_chk]; exact hn.sublist ((List.take_sublist _ _).map _)) (ents_hash _ _) (ents_hash _ _)
    have hne : entsFrom t (T.take (17 * (j + 1))) ≠ [] := fun z => by
      have := ents_length (T.take (17 * (j + 1))) t
      rw [z, List.length_take] at this
      simp at this; omega
    have := ex_merge (w := w) (s := { s with heap := (Hj h0 t T j).push (dictO (entsFrom (t + 51 * (j + 1)) (chk T (j + 1))) 17), toks := t + 51 * (j + 2) }) (d := h0.objs.size) (a := (Hj h0 t T j).objs.size) h28 (by rw [Hj_size]; exact Nat.ne_of_gt (by omega)) (by rw [Hj_size]; exact Nat.ne_of_gt (show 1 < _ by omega))
      get_push (get_push_old (Hj_get j)) (by rw [ents_length, ents_length, hcl, List.length_take]; omega) hne (ents_shape _ _) h1.1 h1.2
    rw [ents_length, hcl] at this
    have e1 : entsFrom t (T.take (17 * (j + 1))) ++ entsFrom (t + 51 * (j + 1)) (chk T (j + 1)) = entsFrom t (T.take (17 * (j + 2))) := by
      rw [← take_chk, ents_append, List.length_take, show min (17 * (j + 1)) T.length = 17 * (j + 1) by omega, show t + 3 * (17 * (j + 1)) = t + 51 * (j + 1) by omega]
    rw [e1, show 17 * (j + 1) + 17 = 17 * (j + 2) by omega] at this
    exact this
theorem chunks (L : Loop w f flush) {h0 : Heap} {t : Nat} {T : List (Nat × List Nat)} {ps : List (Sem Value × Sem Value)} (hp : Pairs w ps T) (hn : (T.map (·.1)).Nodup) (hk : ∀ p ∈ T, p.1 < 2 ^ 60) (hz : T.length ≤ 700) (h28 : 28 ≤ h0.objs.size) {s : Shared} {m : Nat} (hm : 17 * (m + 1) ≤ T.length) (hr : T.length < 17 * (m + 2)) :
    ∀ i j, j + i = m → Ex w (400 * i) (forIn (items (ps.drop (17 * (j + 1)))) (some h0.objs.size, []) f) { s with heap := Hj h0 t T j, toks := t + 51 * (j + 1) } { s with heap := Hj h0 t T m, toks := t + 51 * (m + 1) } (some h0.objs.size, ps.drop (17 * (m + 1)))
  | 0, j, h => by
    obtain rfl : j = m := by omega
    have := loop_less (s := { s with heap := Hj h0 t T j, toks := t + 51 * (j + 1) }) L (ps.drop (17 * (j + 1))) (rest := []) (main := some h0.objs.size) (run := []) (by simp only [List.length_nil, List.length_drop]; rw [hp.length]; omega) Ex.forIn_nil
    rw [List.append_nil, List.nil_append] at this
    exact this
  | i + 1, j, h => by
    have e : items (ps.drop (17 * (j + 1))) = items ((ps.drop (17 * (j + 1))).take 17) ++ items (ps.drop (17 * (j + 2))) := by
      unfold items
      rw [← List.map_append, show 17 * (j + 2) = 17 * (j + 1) + 17 by omega, ← List.drop_drop, List.take_append_drop]
    rw [e]
    refine Ex.le (c1 := 400 + 400 * i) ?_ (by omega)
    refine loop_full L (by rw [List.length_take, List.length_drop, hp.length]; omega) (chunk_step L hp hn hk hz h28 (by omega)) ?_
    exact chunks L hp hn hk hz h28 hm hr i (j + 1) (by omega)
theorem display (L : Loop w f flush) {h0 : Heap} {t : Nat} {T : List (Nat × List Nat)} {ps : List (Sem Value × Sem Value)} (hp : Pairs w ps T) (hn : (T.map (·.1)).Nodup) (hk : ∀ p ∈ T, p.1 < 2 ^ 60) (hz : T.length ≤ 700) (h28 : 28 ≤ h0.objs.size) {s : Shared} {m : Nat} (hm : 17 * (m + 1) ≤ T.length) (hr : T.length < 17 * (m + 2)) :
    Ex w (400 * (m + 1)) (forIn (items ps) (none, []) f) { s with heap := h0, toks := t } { s with heap := Hj h0 t T m, toks := t + 51 * (m + 1) } (some h0.objs.size, ps.drop (17 * (m + 1))) := by
  have e : items ps = items (ps.take 17) ++ items (ps.drop (17 * (0 + 1))) := by
    unfold items
    rw [← List.map_append, List.take_append_drop]
  rw [e]
  have hl : (ps.take 17).length = 17 := by rw [List.length_take, hp.length]; omega
  have hT : (T.take 17).length = 17 := by rw [List.length_take]; omega
  refine Ex.le (c1 := (2 + 13 * 17) + 400 * m) ?_ (by omega)
  refine loop_full L hl (s1 := { s with heap := Hj h0 t T 0, toks := t + 51 * (0 + 1) }) (L.first _ _ _ _ h0.objs.size (fun z => by rw [z] at hl; cases hl) ?_) ?_
  · have := ex_subLong (s := { s with heap := h0, toks := t }) (hp.take 17) (by omega) (by omega) (chk_free hn hk 0) h28
    rw [hT] at this
    exact this
  · exact chunks L hp hn hk hz h28 hm hr m 0 (by omega)
theorem last_step (L : Loop w f flush) {h0 : Heap} {t : Nat} {T : List (Nat × List Nat)} {ps : List (Sem Value × Sem Value)} (hp : Pairs w ps T) (hn : (T.map (·.1)).Nodup) (hk : ∀ p ∈ T, p.1 < 2 ^ 60) (hz : T.length ≤ 700) (h28 : 28 ≤ h0.objs.size) {s : Shared} {m : Nat} (hm : 17 * (m + 1) < T.length) (hr : T.length ≤ 17 * (m + 1) + 15) :
    Ex w 400 (flush (ps.drop (17 * (m + 1))) (some h0.objs.size)) { s with heap := Hj h0 t T m, toks := t + 51 * (m + 1) }
      { s with heap := put ((Hj h0 t T m).push (dictO (entsShort (t + 51 * (m + 1)) (T.drop (17 * (m + 1)))) (T.length - 17 * (m + 1)))) h0.objs.size (dictO (entsFrom t (T.take (17 * (m + 1))) ++ entsShort (t + 51 * (m + 1)) (T.drop (17 * (m + 1)))) T.length), toks := t + 51 * (m + 1) + 3 * (T.length - 17 * (m + 1)) } (some h0.objs.size) := by
  have hcl : (T.drop (17 * (m + 1))).length = T.length - 17 * (m + 1) := by rw [List.length_drop]
  refine Ex.le (c1 := (1 + 13 * (T.length - 17 * (m + 1))) + (50 + 6 * (T.length - 17 * (m + 1)))) ?_ (by omega)
  refine L.next _ _ _ { s with heap := (Hj h0 t T m).push (dictO (entsShort (t + 51 * (m + 1)) (T.drop (17 * (m + 1)))) (T.length - 17 * (m + 1))), toks := t + 51 * (m + 1) + 3 * (T.length - 17 * (m + 1)) } _ _ _ (Hj h0 t T m).objs.size (fun z => ?_) ?_ ?_
  · have := (hp.drop (17 * (m + 1))).length; rw [z, hcl] at this; simp at this; omega
  · have := ex_subShort (s := { s with heap := Hj h0 t T m, toks := t + 51 * (m + 1) }) (hp.drop (17 * (m + 1))) (by omega) ⟨fun e he => (nomatch he), hn.sublist ((List.drop_sublist _ _).map _), fun p q => hk p (List.mem_of_mem_drop q)⟩ (by show 28 ≤ (Hj h0 t T m).objs.size; rw [Hj_size]; omega)
    rw [hcl] at this
    exact this
  · have h1 := hash_apart (A := T.take (17 * (m + 1))) (B := T.drop (17 * (m + 1))) (E := entsFrom t (T.take (17 * (m + 1)))) (F := entsShort (t + 51 * (m + 1)) (T.drop (17 * (m + 1)))) (by rw [List.take_append_drop]; exact hn) (ents_hash _ _) (short_hash _ _)
    have hne : entsFrom t (T.take (17 * (m + 1))) ≠ [] := fun z => by
      have := ents_length (T.take (17 * (m + 1))) t
      rw [z, List.length_take] at this
      simp at this; omega
    have := ex_merge (w := w) (s := { s with heap := (Hj h0 t T m).push (dictO (entsShort (t + 51 * (m + 1)) (T.drop (17 * (m + 1)))) (T.length - 17 * (m + 1))), toks := t + 51 * (m + 1) + 3 * (T.length - 17 * (m + 1)) }) (d := h0.objs.size) (a := (Hj h0 t T m).objs.size) h28 (by rw [Hj_size]; exact Nat.ne_of_gt (by omega)) (by rw [Hj_size]; exact Nat.ne_of_gt (show 1 < _ by omega))
      get_push (get_push_old (Hj_get m)) (by rw [ents_length, short_length, hcl, List.length_take]; omega) hne (short_shape _ _) h1.1 h1.2
    rw [short_length, hcl, show 17 * (m + 1) + (T.length - 17 * (m + 1)) = T.length by omega] at this
    exact this
end Hd
end Mine
end
section -- H15
open PySem PySem.W PyProof.Rows PySem.Calls
set_option Elab.async false
set_option linter.all false
set_option maxRecDepth 100000
namespace Mine
namespace Hd
variable {w : World} {s s' s1 s2 : Shared} {α β : Type}
theorem dict_run {h0 : Heap} {t : Nat} {T : List (Nat × List Nat)} {ps : List (Sem Value × Sem Value)} (hp : Pairs w ps T) (hn : (T.map (·.1)).Nodup) (hk : ∀ p ∈ T, p.1 < 2 ^ 60) (hz : T.length ≤ 700) (h28 : 28 ≤ h0.objs.size) {s : Shared} {m : Nat} (hm : 17 * (m + 1) < T.length) (hr : T.length ≤ 17 * (m + 1) + 15) :
    Ex w (400 * (m + 2)) (dictDisplay (items ps)) { s with heap := h0, toks := t }
      { s with heap := put ((Hj h0 t T m).push (dictO (entsShort (t + 51 * (m + 1)) (T.drop (17 * (m + 1)))) (T.length - 17 * (m + 1)))) h0.objs.size (dictO (entsFrom t (T.take (17 * (m + 1))) ++ entsShort (t + 51 * (m + 1)) (T.drop (17 * (m + 1)))) T.length), toks := t + 51 * (m + 1) + 3 * (T.length - 17 * (m + 1)) } (.ref h0.objs.size) := by
  unfold dictDisplay
  dsimp only
  refine Ex.le (c1 := 400 * (m + 1) + (400 + 0)) ?_ (by omega)
  suffices L : Loop w _ (fun (run : List (Sem Value × Sem Value)) (main : Option Addr) => if run.isEmpty = true then (pure main : Sem (Option Addr)) else match main with
        | none => do
          let __do_lift ← subDict run
          pure (some __do_lift)
        | some d => do
          let sub ← holding [Value.ref d] (subDict run)
          (holding [Value.ref d, Value.ref sub] (mergeMapping d (Value.ref sub) false)).onRaise fun x => do
              let _ ← holding [Value.ref d, x] (runValue (Code.builtin "proto.let_go" { }))
              pure ()
          pure (some d)) from
    Ex.bind (display (s := s) (t := t) (m := m) L hp hn hk hz h28 (by omega) (by omega)) (Ex.bind (last_step L hp hn hk hz h28 hm hr) (Ex.pure _))
  refine ⟨fun s main run k v h => ?_, fun c s s' main run k v main' h hf => ?_, fun c s s' run a hne h => ?_, fun c1 c2 s s1 s' run d a hne h1 h2 => ?_⟩
  · dsimp only
    rw [if_neg (by simpa using h)]
    exact Ex.pure _
  · dsimp only
    rw [if_pos (by simpa using h)]
    refine Ex.le (c1 := c + 0) ?_ (Nat.le_refl _)
    exact Ex.bind hf (Ex.pure _)
  · dsimp only
    rw [if_neg (by cases run with | nil => exact absurd rfl hne | cons => simp)]
    refine Ex.le (c1 := c + 0) ?_ (Nat.le_refl _)
    exact Ex.bind h (Ex.pure _)
  · dsimp only
    rw [if_neg (by cases run with | nil => exact absurd rfl hne | cons => simp)]
    refine Ex.le (c1 := c1 + (c2 + 0)) ?_ (Nat.le_refl _)
    exact Ex.bind (Ex.holding h1) (Ex.bind (a := ()) (Ex.onRaise (Ex.holding h2)) (Ex.pure _))
end Hd
end Mine
end
section -- H16
open PySem PySem.W PyProof.Rows PySem.Calls
set_option Elab.async false
set_option linter.all false
set_option maxRecDepth 100000
namespace Mine
namespace Hd
variable {w : World} {s s' s1 s2 : Shared} {α β : Type}
noncomputable def keysE : List (Option PySem.Expr) := match stAt 18 with | .Assign _ (.Dict ks _ _) _ => ks | _ => []
noncomputable def valsE : List PySem.Expr := match stAt 18 with | .Assign _ (.Dict _ vs _) _ => vs | _ => []
/-- kind and place of a constant's node -/
noncomputable def nodeAt : PySem.Expr → Nat × Pos
  | .Constant _ n p => (n, p)
  | _ => (0, ⟨0, 0, 0, 0⟩)
noncomputable def nodesK : List (Nat × Pos) := keysE.map fun o => match o with | some e => nodeAt e | none => (0, ⟨0, 0, 0, 0⟩)
noncomputable def nodesV : List (Nat × Pos) := valsE.map nodeAt
noncomputable def keyE (e : Nat × List Nat) (q : Nat × Pos) : Option PySem.Expr := some (.Constant (.int (.ofNat e.1)) q.1 q.2)
noncomputable def valE (e : Nat × List Nat) (q : Nat × Pos) : PySem.Expr := .Constant (.str ⟨e.2.toArray⟩) q.1 q.2
theorem keys_ok : keysE = List.zipWith keyE b3L nodesK := by kernel_rfl!
theorem vals_ok : valsE = List.zipWith valE b3L nodesV := by kernel_rfl!
theorem nodesK_len : nodesK.length = 650 := by kernel_rfl!
theorem nodesV_len : nodesV.length = 650 := by kernel_rfl!
theorem const_int (i : Int) (n : Nat) (p : Pos) (env : Env) : eval (.Constant (.int i) n p) env = .fresh fun t => .pure (.int i t) := by kernel_rfl!
theorem const_str (x : Str) (n : Nat) (p : Pos) (env : Env) : eval (.Constant (.str x) n p) env = .fresh fun t => .pure (.str x t) := by kernel_rfl!
theorem pairs_of (pos : Pos) (env : Env) (T : List (Nat × List Nat)) : ∀ (nk nv : List (Nat × Pos)), nk.length = T.length → nv.length = T.length →
    ∃ ps, Pairs w ps T ∧ (evalEachOpt (List.zipWith keyE T nk) env).zip ((evalEach (List.zipWith valE T nv) env).map fun v => do let x ← v; standAt pos; pure x) = items ps := by
  induction T with
  | nil =>
    intro nk nv e1 e2
    obtain rfl := List.eq_nil_of_length_eq_zero e1
    obtain rfl := List.eq_nil_of_length_eq_zero e2
    exact ⟨[], .nil, rfl⟩
  | cons e T ih =>
    intro nk nv e1 e2
    cases nk with
    | nil => cases e1
    | cons a nk =>
    cases nv with
    | nil => cases e2
    | cons b nv =>
    obtain ⟨ps, hp, h⟩ := ih nk nv (Nat.succ.inj e1) (Nat.succ.inj e2)
    refine ⟨(eval (.Constant (.int (.ofNat e.1)) a.1 a.2) env, do let x ← eval (valE e b) env; standAt pos; pure x) :: ps, .cons ⟨fun s => ?_, fun s => ?_⟩ hp, congrArg (List.cons _) h⟩
    · rw [const_int]
      exact Ex.fresh (Ex.pure _)
    · unfold valE
      rw [const_str]
      refine Ex.le (c1 := (0 + 1) + ((0 + 1) + 0)) ?_ (by decide)
      exact Ex.bind (Ex.fresh (Ex.pure _)) (Ex.bind (a := ()) (Ex.at (Ex.pure _)) (Ex.pure _))
theorem table_nodup : (b3L.map (·.1)).Nodup := by
  have h : (b3L.map (·.1)).Pairwise (· < ·) := by
    have e : ∀ l : List Nat, (l.zip (l.drop 1)).all (fun p => Nat.blt p.1 p.2) = true → l.Pairwise (· < ·) := by
      intro l
      induction l with
      | nil => intro _; exact .nil
      | cons a r ih =>
        intro h
        cases r with
        | nil => simp
        | cons b r =>
          simp only [List.drop_succ_cons, List.drop_zero, List.zip_cons_cons, List.all_cons, Bool.and_eq_true] at h
          have h1 := ih (by simpa using h.2)
          have h0 : a < b := by have := h.1; unfold Nat.blt at this; exact Nat.le_of_ble_eq_true this
          refine List.pairwise_cons.mpr ⟨fun x hx => ?_, h1⟩
          rcases List.mem_cons.mp hx with rfl | q
          · exact h0
          · exact Nat.lt_trans h0 (List.rel_of_pairwise_cons h1 q)
    exact e _ (by kernel_rfl!)
  rw [List.nodup_iff_pairwise_ne]
  exact h.imp fun q => Nat.ne_of_lt q
theorem table_small : ∀ p ∈ b3L, p.1 < 2 ^ 60 := by
  have h : b3L.all (fun p => Nat.blt p.1 200000) = true := by kernel_rfl!
  intro p hp
  have := List.all_eq_true.mp h p hp
  unfold Nat.blt at this
  have := Nat.le_of_ble_eq_true this
  omega
theorem table_len : b3L.length = 650 := by kernel_rfl!
/-- the dict's heap -/
noncomputable def heap17 (P : Params) : Heap := put ((Hj (absHeap (tree_16 P) 115 life0) 524 b3L 37).push (dictO (entsShort 2462 (b3L.drop 646)) 4)) 115 (dictO (entsFrom 524 (b3L.take 646) ++ entsShort 2462 (b3L.drop 646)) 650)
theorem size16 (P : Params) : (absHeap (tree_16 P) 115 life0).objs.size = 115 := absHeap_size _ _ _
theorem dict_val (s : Shared) (pos : Pos) (env : Env) : Ex w 16000 (eval (.Dict keysE valsE pos) env) { s with heap := absHeap (tree_16 w.params) 115 life0, toks := 524 } { s with heap := heap17 w.params, toks := 2474 } (.ref 115) := by
  obtain ⟨ps, hp, e⟩ := pairs_of (w := w) pos env b3L nodesK nodesV (nodesK_len.trans table_len.symm) (nodesV_len.trans table_len.symm)
  rw [← keys_ok, ← vals_ok] at e
  have e0 : eval (.Dict keysE valsE pos) env = (do standAt pos; dictDisplay ((evalEachOpt keysE env).zip ((evalEach valsE env).map fun v => do let x ← v; standAt pos; pure x))) := by rfl
  rw [e0, e]
  refine Ex.le (c1 := (0 + 1) + 400 * (37 + 2)) ?_ (by decide)
  refine Ex.bind (a := ()) (Ex.at (Ex.pure _)) ?_
  have := dict_run (w := w) (h0 := absHeap (tree_16 w.params) 115 life0) (t := 524) (T := b3L) (s := s) (m := 37) hp table_nodup table_small (by rw [table_len]; omega) (by rw [size16]; omega) (by rw [table_len]; omega) (by rw [table_len]; omega)
  rw [size16, table_len] at this
  exact this
end Hd
end Mine
end
section -- H17
open PySem PySem.W PyProof.Rows PySem.Calls
set_option Elab.async false
set_option linter.all false
set_option maxRecDepth 100000
namespace Mine
namespace Hd
open PySem.W.Fast
variable {w : World} {s s' s1 s2 : Shared} {α β : Type}
noncomputable def dposE : Pos := match stAt 18 with | .Assign _ (.Dict _ _ p) _ => p | _ => default
noncomputable def posE : Pos := match stAt 18 with | .Assign _ _ p => p | _ => default
theorem g5_is : g5 = [.Assign [.Name (Str.ofString "b3_exceptions") ⟨42,0,42,13⟩] (.Dict keysE valsE dposE) posE] := by kernel_rfl!
theorem swaps_no : swapsWith (.Dict keysE valsE dposE) (some (.Name (Str.ofString "b3_exceptions") ⟨42,0,42,13⟩)) posE.line benv = pure false := by kernel_rfl!
noncomputable def tail17 : Sem Flow := do
  standAt ⟨42,0,42,13⟩
  bindName benv (Str.ofString "b3_exceptions") (.ref 115)
  pure .next
theorem tail_go (w : World) (os : OsState) (K : Flow → Sem Fin) (H : Value → Sem Fin) (gd : Bool → Bool) (lv : List Value → List Value) (pos : Pos) :
    segGo treeTable prog w 28 ann0 1 7 ⟨heap17 w.params, ⟨[]⟩, {}, 2474, os⟩ ⟨tail17.wrap K H gd lv, cE, pos, B0⟩ = some ((st tree_17 154 2475 w os).abs, ⟨K .next, cE, ⟨42,0,42,13⟩, B0⟩) := by
  kernel_rfl!
end Hd
end Mine
end
section -- H6
open PySem PySem.W PyProof.Rows PySem.Calls
set_option Elab.async false
set_option linter.all false
set_option maxRecDepth 100000
namespace Mine
namespace Hd
open PySem.W.Fast
set_option maxHeartbeats 0 in
theorem g2_run (w : World) (os : OsState) : segRunT treeTable prog w 28 (some (.ref 6)) 1 400 (st tree_9 80 388 w os) (piecesOf g2 benv cE ⟨32,0,32,8⟩ [topFrame p0]) = some (.next, st tree_14 97 457 w os, cE, ⟨38,0,38,8⟩) := by
  rw [te10110043849684766642, te14364793385576792824]
  kernel_rfl!
set_option maxHeartbeats 0 in
theorem g4_run (w : World) (os : OsState) : segRunT treeTable prog w 28 (some (.ref 6)) 1 100 (st tree_15 108 517 w os) (piecesOf g4 benv cE ⟨39,0,39,6⟩ [topFrame p0]) = some (.next, st tree_16 115 524 w os, cE, ⟨40,0,41,30⟩) := by
  rw [te10110043849684766642, te14364793385576792824]
  kernel_rfl!
set_option maxHeartbeats 0 in
theorem g6_run (w : World) (os : OsState) (q : Pos) : segRunT treeTable prog w 28 (some (.ref 6)) 1 500 (st tree_17 154 2475 w os) (piecesOf g6 benv cE q [topFrame p0]) = some (.next, st tree_28 216 2577 w os, cE, ⟨139,0,146,57⟩) := by
  rw [te10110043849684766642, te14364793385576792824]
  kernel_rfl!
theorem fin_run (w : World) (os : OsState) : topRun treeTable prog w 28 (some (.ref 6)) 2 (st tree_28 216 2577 w os).abs ⟨doneF .next, cE, ⟨139,0,146,57⟩, [topFrame p0]⟩ = some (st tree_28 216 2577 w os).abs := by
  rw [te14082659384304107361, te14364793385576792824]
  kernel_rfl!
end Hd
end Mine
end
section -- H7
open PySem PySem.W PyProof.Rows PySem.Calls
set_option Elab.async false
set_option linter.all false
set_option maxRecDepth 100000
namespace Mine
namespace Hd
open PySem.W.Fast
noncomputable abbrev wf (w : World) (a b : Bool) : World := (w.withFollow "set-order" a).withFollow "special-get-raises" b
noncomputable abbrev G3 (w : World) : Prop := ∀ os : OsState, segRunT treeTable prog w 28 (some (.ref 6)) 1 1100 (st tree_14 97 457 w os) (piecesOf g3 benv cE ⟨38,0,38,8⟩ [topFrame p0]) = some (.next, st tree_15 108 517 w os, cE, ⟨39,0,39,6⟩)
set_option maxHeartbeats 0 in
theorem g3_ff (w : World) : G3 (wf w false false) := by
  intro os
  rw [te10110043849684766642, te14364793385576792824]
  kernel_rfl!
set_option maxHeartbeats 0 in
theorem g3_ft (w : World) : G3 (wf w false true) := by
  intro os
  rw [te10110043849684766642, te14364793385576792824]
  kernel_rfl!
set_option maxHeartbeats 0 in
theorem g3_tf (w : World) : G3 (wf w true false) := by
  intro os
  rw [te10110043849684766642, te14364793385576792824]
  kernel_rfl!
set_option maxHeartbeats 0 in
theorem g3_tt (w : World) : G3 (wf w true true) := by
  intro os
  rw [te10110043849684766642, te14364793385576792824]
  kernel_rfl!
theorem g3_run (w : World) : G3 w :=
  byRow2 "special-get-raises" (P := G3) (byRow2 "set-order" (P := fun w => G3 (w.withFollow "special-get-raises" false)) g3_ff g3_tf) (byRow2 "set-order" (P := fun w => G3 (w.withFollow "special-get-raises" true)) g3_ft g3_tt) w
end Hd
end Mine
end
section -- H18
open PySem PySem.W PyProof.Rows PySem.Calls
set_option Elab.async false
set_option linter.all false
set_option maxRecDepth 100000
namespace Mine
namespace Hd
open PySem.W.Fast
variable {w : World} {s s' s1 s2 : Shared} {α β : Type}
theorem segRun_mono {n : Nat} {t : Thread} {r : Flow × Shared × Code × Pos} (k : Nat) : segRun treeTable prog w 28 ann0 1 n s t = some r → segRun treeTable prog w 28 ann0 1 (n + k) s t = some r := by
  induction n generalizing s t with
  | zero => intro h; simp [segRun] at h
  | succ n ih =>
    intro h
    rw [show n + 1 + k = n + k + 1 by omega]
    unfold segRun at h ⊢
    cases he : endAt 1 t with
    | some f => rw [he] at h; exact h
    | none =>
      rw [he] at h
      cases hk : stepOk 28 ann0 t with
      | false => rw [hk] at h; cases h
      | true =>
        rw [hk] at h
        cases hs : PySem.step (denote treeTable) prog w s t with
        | halt o s' => rw [hs] at h; cases h
        | go s' t' => rw [hs] at h; exact ih h
theorem tail_ex (os : OsState) : Ex w 7 tail17 ⟨heap17 w.params, ⟨[]⟩, {}, 2474, os⟩ (st tree_17 154 2475 w os).abs .next := ⟨fun K H gd lv pos => ⟨7, _, Nat.le_refl _, tail_go w os K H gd lv pos⟩⟩
theorem g5_ex (os : OsState) : Ex w 17000 (execs g5 benv) (st tree_16 115 524 w os).abs (st tree_17 154 2475 w os).abs .next := by
  rw [g5_is]
  refine Ex.le (c1 := ((0 + 1) + (16000 + 7)) + 0) ?_ (by decide)
  refine Ex.bind (a := Flow.next) ?_ (Ex.pure _)
  rw [exec_Assign_Name (hs := swaps_no)]
  refine Ex.bind (a := ()) (Ex.at (Ex.pure _)) ?_
  refine Ex.bind (dict_val (s := (st tree_16 115 524 w os).abs) dposE benv) ?_
  exact tail_ex os
theorem g5_run (w : World) (os : OsState) (p : Pos) : ∃ q, segRun treeTable prog w 28 ann0 1 17001 (st tree_16 115 524 w os).abs (piecesOf g5 benv cE p [topFrame p0]) = some (.next, (st tree_17 154 2475 w os).abs, cE, q) := by
  obtain ⟨n, q, hn, h⟩ := (g5_ex (w := w) os).run doneF deadEnd id id p
  refine ⟨q, ?_⟩
  have e : segRun treeTable prog w 28 ann0 1 1 (st tree_17 154 2475 w os).abs ⟨doneF .next, cE, q, B0⟩ = some (.next, (st tree_17 154 2475 w os).abs, cE, q) := rfl
  have := segRun_mono (17000 - n) (seg_go h e)
  rw [show n + 1 + (17000 - n) = 17001 by omega] at this
  exact this
set_option maxHeartbeats 1000000 in
theorem top_run (w : World) (os : OsState) : topRun treeTable prog w 28 ann0 (12 + (1 + (400 + (400 + (1100 + (100 + (17001 + (500 + 2)))))))) ⟨heap0 w.params, ⟨[]⟩, {}, 276, os⟩ (topStub prog) = some (st tree_28 216 2577 w os).abs := by
  obtain ⟨q, h5⟩ := g5_run w os ⟨40,0,41,30⟩
  have e6 := piece_app (rest := []) (segRun_of (g6_run w os q)) (piece_nil (fin_run w os))
  rw [List.append_nil] at e6
  have e5 := piece_app h5 e6
  have e4 := piece_app (segRun_of (g4_run w os)) e5
  have e3 := piece_app (segRun_of (g3_run w os)) e4
  have e2 := piece_app (segRun_of (g2_run w os)) e3
  have e1 := piece_app (segRun_of (g1_run w os)) e2
  rw [← bE_is] at e1
  have e0 := piece_block (block_run w os) e1
  exact go_top (pre_run w os) e0
end Hd
end Mine
end
section -- H19
open PySem PySem.W PyProof.Rows PySem.Calls
set_option Elab.async false
set_option linter.all false
set_option maxRecDepth 100000
namespace Mine
namespace Hd
open PySem.W.Fast
noncomputable def qv : Program := { prog with main := { prog.main with body := [stAt 0, stAt 29] } }
noncomputable def loose0 : List Str := [Str.ofString "_quoted", Str.ofString "_paren_depth", Str.ofString "Int2AP", Str.ofString "gt", Str.ofString "countOf", Str.ofString "indexOf", Str.ofString "setitem", Str.ofString "_twin_re_1", Str.ofString "_twin_re_2", Str.ofString "CRLF", Str.ofString "quotedata", Str.ofString "b1_set", Str.ofString "in_table_b1", Str.ofString "b3_exceptions", Str.ofString "map_table_b3", Str.ofString "_law_cells", Str.ofString "_law_second", Str.ofString "_law_heard", Str.ofString "_law_mail", Str.ofString "_law_text", Str.ofString "_law_names", Str.ofString "_law_settled", Str.ofString "_law_grown"]
noncomputable def H1w (P : Params) : Heap := absHeap (tree_28 P) 216 life0
noncomputable def yes (_ : Shared) : Bool := true
set_option maxHeartbeats 0 in
theorem size_ok (w : World) : ((heap0 w.params).isNs mainGlobals && (⟨[]⟩ : Array GenState).size == 0, (heap0 w.params).objs.size, (heap0 w.params).nsMap mainGlobals "__annotations__") = (true, 28, ann0) := by
  kernel_rfl!
set_option maxHeartbeats 0 in
theorem look1 (w : World) (os : OsState) : (staticsOk (importedModules prog.main.body) (heap0 w.params) (H1w w.params) && namesBound prog (H1w w.params) && gensDone ⟨H1w w.params, ⟨[]⟩, {}, 2577, os⟩ && laidKept (heap0 w.params) (H1w w.params)) = true := by
  kernel_rfl!
end Hd
end Mine
end
section -- H20
open PySem PySem.W PyProof.Rows PySem.Calls
set_option Elab.async false
set_option linter.all false
set_option maxRecDepth 100000
namespace Mine
namespace Hd
open PySem.W.Fast
set_option maxHeartbeats 0 in
theorem look2 (w : World) (os : OsState) : openSeen qv loose0 (importedModules prog.main.body) yes true ⟨H1w w.params, ⟨[]⟩, {}, 2577, os⟩ = openGood qv loose0 := by
  rw [te4187177175401517315]
  kernel_rfl!
end Hd
end Mine
end
section -- H21
open PySem PySem.W PyProof.Rows PySem.Calls
set_option Elab.async false
set_option linter.all false
set_option maxRecDepth 100000
namespace Mine
namespace Hd
open PySem.W.Fast
abbrev lw : OpenLaw := PySem.Challenge.rw_wj0045_01
noncomputable def Yf0 (s : Shared) : Heap × Nat := (s.heap, s.toks)
noncomputable def Ya0 (w : World) : Heap × Nat := (H1w w.params, 2577)
theorem left0 : LeftO prog qv loose0 yes Yf0 Ya0 20000 := by
  refine LeftO.of_pieces (H₀ := heap0) (H₁ := H1w) (gs₀ := ⟨[]⟩) (gs₁ := ⟨[]⟩) (d₀ := {}) (d₁ := {}) (k₀ := 276) (k₁ := 2577) (m₀ := 28) (ann := ann0) (M := 12 + (1 + (400 + (400 + (1100 + (100 + (17001 + (500 + 2)))))))) ?_ ?_ ?_ ?_ ?_
  · exact open_runs 20000 (by decide +kernel)
  · exact size_ok
  · exact top_run
  · decide +kernel
  · intro w
    funext os
    rw [look1, look2]
    rfl
/-- the objects of the top that the walk reads -/
noncomputable def Kf (P : Params) : Frag := [(2, ob2 P), (30, ob30 P), (35, ob35 P), (36, ob36 P), (37, ob37 P), (43, ob43 P), (44, ob44 P), (50, ob50 P), (51, ob51 P), (57, ob57 P), (58, ob58 P), (64, ob64 P), (65, ob65 P), (71, ob71 P), (72, ob72 P), (78, ob78 P), (79, ob79 P), (83, ob83 P), (84, ob84 P), (88, ob88 P), (89, ob89 P), (95, ob95 P), (96, ob96 P), (104, ob104 P), (113, ob113 P), (114, ob114 P), (115, ob115 P), (159, ob159 P), (160, ob160 P), (164, ob164 P), (165, ob165 P), (171, ob171 P), (172, ob172 P), (178, ob178 P), (179, ob179 P), (185, ob185 P), (186, ob186 P), (192, ob192 P), (193, ob193 P), (199, ob199 P), (200, ob200 P), (204, ob204 P), (205, ob205 P), (209, ob209 P), (210, ob210 P), (214, ob214 P), (215, ob215 P)]
noncomputable def cxOf (w : World) : Cx := { w := w, K := Kf w.params, mg := (H1w w.params).nsMap mainGlobals, mb := (H1w w.params).nsMap builtinsNs }
theorem K_in (w : World) : (Kf w.params).In (H1w w.params) := Frag.in_of (as := [2, 30, 35, 36, 37, 43, 44, 50, 51, 57, 58, 64, 65, 71, 72, 78, 79, 83, 84, 88, 89, 95, 96, 104, 113, 114, 115, 159, 160, 164, 165, 171, 172, 178, 179, 185, 186, 192, 193, 199, 200, 204, 205, 209, 210, 214, 215]) (by kernel_rfl!) (by kernel_rfl!)
theorem ns_main (w : World) : (H1w w.params).isNs mainGlobals = true := by kernel_rfl!
theorem ns_blt (w : World) : (H1w w.params).isNs builtinsNs = true := by kernel_rfl!
theorem reps_of {O : Addr → Prop} {h : Heap} : ∀ {vs : List Value} {ns : List Int}, IntsAre vs ns → RepL O h vs (ns.map .int)
  | _, _, .nil => .nil
  | _, _, .cons n t x => .cons (.int n t) (reps_of x)
/-- what the walk is to show -/
noncomputable def LawWalk : Prop := ∀ (w : World) (script : List Int), script.length ≤ 63 → CALLn 2577 (cxOf w) 20 (.ref 215) [.list (script.map .int)] (.bool true)
theorem row_holds (walk : LawWalk) (said : lw.row.wellSaid = true) : lw.row.Holds := by
  refine holds_openX (r := lw.row) (q := qv) (loose := loose0) (Xt := yes) (XP := fun _ _ => True) (Yf := Yf0) (Ya := Ya0) (N := 20000) left0 (fun _ _ => trivial) (fun _ _ _ _ _ => trivial) (by rfl) (by rfl) (by rfl) (fun s _ => recFacts_nil rfl) (by rfl) said (by decide +kernel) ⟨rfl, rfl, rfl, rfl, rfl, by decide +kernel⟩ ?hw ?hc
  case hw => w_witness2
  case hc =>
    intro w s₀ s₁ mg mb G Y fa o pm cd doc dV kV ho hd hcd hD hmg hg args vals as L hpre hlay hrd hwl hlo
    refine Ground.open G ?_
    intro T B D TE TW
    wrow_args hpre hlay hrd hwl hlo
    clear hd hcd hD
    rename_i ns _ _ _ _ _ _ _ b vs _ hl _ _ _ hi _ hn _
    obtain ⟨y1, y2⟩ : s₀.heap = H1w w.params ∧ s₀.toks = 2577 := by
      have h1 := congrArg Prod.fst Y
      have h2 := congrArg Prod.snd Y
      exact ⟨h1, h2⟩
    have kp : ∀ a o, (H1w w.params).get? a = some o → s₁.heap.get? a = some o := fun a o e => L.keeps a o (y1 ▸ e)
    have e1 : mg = (cxOf w).mg := funext (Ns.inj T.g ((Heap.Ns.of_isNs (ns_main w)).keeps kp))
    have e2 : mb = (cxOf w).mb := funext (Ns.inj T.b ((Heap.Ns.of_isNs (ns_blt w)).keeps kp))
    have T' : Mine.Top (cxOf w) s₁.heap := ⟨e1 ▸ T.g, e2 ▸ T.b, T.nolimit, fun a o e => kp a o (K_in w a o e)⟩
    have hfa : fa = 215 := by
      have : mg (Str.ofString "law") = some (.ref 215) := by rw [e1]; kernel_rfl!
      have h2 := hmg.symm.trans this
      simpa using h2
    subst hfa
    have ht := PySem.W.X.script_toks L y2
    have hlen : ns.length ≤ 63 := by omega
    refine (walk w ns hlen).run callerA s₁ _ _ (fun _ => False) [.ref b] ⟨rfl, by decide, by decide⟩ T' (fun a q => q.elim) (.cons (.list hl (fun q => q) (reps_of hi)) .nil) ht fun v h' tk k r => ?_
    cases r
    exact ⟨.inl ⟨_, .bool true, [], rfl, fun _ => rfl, .bool true, by kernel_rfl!, fun _ => ⟨List.nodup_nil, fun _ q => nomatch q⟩⟩, OldK.of_keep k, rfl, AllBare.of_eq hg⟩
end Hd
end Mine
end
section -- H23
open PySem PySem.W PyProof.Rows PySem.Calls
set_option Elab.async false
set_option linter.all false
set_option maxRecDepth 100000
namespace Mine
namespace Hd
theorem fn_of {w : World} {a ca : Addr} {name : Str} {xs : List Str} {params : Arguments} {body : List Stmt} {scope : Scope} {o oc : Obj} {pm : Value} {vs : Array Value} {t : Tok}
    (hK : (Kf w.params).lookup a = some o) (hd : o.data = .func (docDef name params body scope pm (.ref ca) .none)) (hc : (Kf w.params).lookup ca = some oc) (hcd : oc.data = .fields vs) (hv : vs[1]? = some (.str name t))
    (hb : ∀ vs : List Value, vs.length = xs.length → bindArgs (docDef name params body scope pm (.ref ca) .none) ⟨vs, []⟩ = pure (xs.zip vs))
    (hp : ∀ x ∈ xs, scope.names.lookup x = some .local ∨ scope.names.lookup x = some .cell) (hn : xs.Nodup) (h1 : scope.isCoroutine = false) (h2 : scope.isGenerator = false) (h3 : scope.kind = .function) : Fn (cxOf w) a name xs body scope :=
  ⟨⟨o, params, pm, .ref ca, .none, hK, hd, fun h T => ⟨ca, oc, vs, t, rfl, T.k _ _ hc, hcd, hv⟩, hb⟩, hp, hn, h1, h2, h3⟩
theorem two {α : Type} {P : List α → Prop} {n : Nat} (h : ∀ a b, P [a, b]) (vs : List α) (e : vs.length = 2) : P vs := by
  match vs, e with
  | [a, b], _ => exact h a b
theorem one {α : Type} {P : List α → Prop} {n : Nat} (h : ∀ a, P [a]) (vs : List α) (e : vs.length = 1) : P vs := by
  match vs, e with
  | [a], _ => exact h a
theorem three {α : Type} {P : List α → Prop} {n : Nat} (h : ∀ a b c, P [a, b, c]) (vs : List α) (e : vs.length = 3) : P vs := by
  match vs, e with
  | [a, b, c], _ => exact h a b c
theorem fn_apF (w : World) : Fn (cxOf w) 51 "Int2AP" ["num"] (bodyAt 4) (scopeAt 4) :=
  fn_of (params := paramsAt 4) (pm := (.str ⟨⟨[99,112,121,51,49,51,46,105,109,97,112,108,105,98]⟩⟩ 282)) (ca := 50) (o := ob51 w.params) (oc := ob50 w.params) (t := 338) (by kernel_rfl!) (by kernel_rfl!) (by kernel_rfl!) rfl (by kernel_rfl!)
    (one (n := 0) fun v1 => by kernel_rfl!) (by decide +kernel) (by decide +kernel) (by kernel_rfl!) (by kernel_rfl!) (by kernel_rfl!)
theorem fn_gtF (w : World) : Fn (cxOf w) 58 "gt" ["a", "b"] (bodyAt 6) (scopeAt 6) :=
  fn_of (params := paramsAt 6) (pm := (.str ⟨⟨[99,112,121,51,49,51,46,111,112,101,114,97,116,111,114]⟩⟩ 347)) (ca := 57) (o := ob58 w.params) (oc := ob57 w.params) (t := 350) (by kernel_rfl!) (by kernel_rfl!) (by kernel_rfl!) rfl (by kernel_rfl!)
    (two (n := 0) fun v1 v2 => by kernel_rfl!) (by decide +kernel) (by decide +kernel) (by kernel_rfl!) (by kernel_rfl!) (by kernel_rfl!)
theorem fn_countF (w : World) : Fn (cxOf w) 65 "countOf" ["a", "b"] (bodyAt 7) (scopeAt 7) :=
  fn_of (params := paramsAt 7) (pm := (.str ⟨⟨[99,112,121,51,49,51,46,111,112,101,114,97,116,111,114]⟩⟩ 347)) (ca := 64) (o := ob65 w.params) (oc := ob64 w.params) (t := 358) (by kernel_rfl!) (by kernel_rfl!) (by kernel_rfl!) rfl (by kernel_rfl!)
    (two (n := 0) fun v1 v2 => by kernel_rfl!) (by decide +kernel) (by decide +kernel) (by kernel_rfl!) (by kernel_rfl!) (by kernel_rfl!)
theorem fn_indexF (w : World) : Fn (cxOf w) 72 "indexOf" ["a", "b"] (bodyAt 8) (scopeAt 8) :=
  fn_of (params := paramsAt 8) (pm := (.str ⟨⟨[99,112,121,51,49,51,46,111,112,101,114,97,116,111,114]⟩⟩ 347)) (ca := 71) (o := ob72 w.params) (oc := ob71 w.params) (t := 368) (by kernel_rfl!) (by kernel_rfl!) (by kernel_rfl!) rfl (by kernel_rfl!)
    (two (n := 0) fun v1 v2 => by kernel_rfl!) (by decide +kernel) (by decide +kernel) (by kernel_rfl!) (by kernel_rfl!) (by kernel_rfl!)
theorem fn_setF (w : World) : Fn (cxOf w) 79 "setitem" ["a", "b", "c"] (bodyAt 9) (scopeAt 9) :=
  fn_of (params := paramsAt 9) (pm := (.str ⟨⟨[99,112,121,51,49,51,46,111,112,101,114,97,116,111,114]⟩⟩ 347)) (ca := 78) (o := ob79 w.params) (oc := ob78 w.params) (t := 378) (by kernel_rfl!) (by kernel_rfl!) (by kernel_rfl!) rfl (by kernel_rfl!)
    (three (n := 0) fun v1 v2 v3 => by kernel_rfl!) (by decide +kernel) (by decide +kernel) (by kernel_rfl!) (by kernel_rfl!) (by kernel_rfl!)
theorem fn_quoteF (w : World) : Fn (cxOf w) 96 "quotedata" ["data"] (bodyAt 14) (scopeAt 14) :=
  fn_of (params := paramsAt 14) (pm := (.str ⟨⟨[99,112,121,51,49,51,46,115,109,116,112,108,105,98]⟩⟩ 386)) (ca := 95) (o := ob96 w.params) (oc := ob95 w.params) (t := 449) (by kernel_rfl!) (by kernel_rfl!) (by kernel_rfl!) rfl (by kernel_rfl!)
    (one (n := 0) fun v1 => by kernel_rfl!) (by decide +kernel) (by decide +kernel) (by kernel_rfl!) (by kernel_rfl!) (by kernel_rfl!)
theorem fn_in1F (w : World) : Fn (cxOf w) 114 "in_table_b1" ["code"] (bodyAt 17) (scopeAt 17) :=
  fn_of (params := paramsAt 17) (pm := (.str ⟨⟨[99,112,121,51,49,51,46,115,116,114,105,110,103,112,114,101,112]⟩⟩ 455)) (ca := 113) (o := ob114 w.params) (oc := ob113 w.params) (t := 518) (by kernel_rfl!) (by kernel_rfl!) (by kernel_rfl!) rfl (by kernel_rfl!)
    (one (n := 0) fun v1 => by kernel_rfl!) (by decide +kernel) (by decide +kernel) (by kernel_rfl!) (by kernel_rfl!) (by kernel_rfl!)
theorem fn_map3F (w : World) : Fn (cxOf w) 160 "map_table_b3" ["code"] (bodyAt 19) (scopeAt 19) :=
  fn_of (params := paramsAt 19) (pm := (.str ⟨⟨[99,112,121,51,49,51,46,115,116,114,105,110,103,112,114,101,112]⟩⟩ 455)) (ca := 159) (o := ob160 w.params) (oc := ob159 w.params) (t := 2476) (by kernel_rfl!) (by kernel_rfl!) (by kernel_rfl!) rfl (by kernel_rfl!)
    (one (n := 0) fun v1 => by kernel_rfl!) (by decide +kernel) (by decide +kernel) (by kernel_rfl!) (by kernel_rfl!) (by kernel_rfl!)
theorem fn_cellsF (w : World) : Fn (cxOf w) 165 "_law_cells" ["script"] (bodyAt 21) (scopeAt 21) :=
  fn_of (params := paramsAt 21) (pm := (.str ⟨⟨[108,97,119,95,119,106,48,48,52,53,95,48,49]⟩⟩ 2483)) (ca := 164) (o := ob165 w.params) (oc := ob164 w.params) (t := 2486) (by kernel_rfl!) (by kernel_rfl!) (by kernel_rfl!) rfl (by kernel_rfl!)
    (one (n := 0) fun v1 => by kernel_rfl!) (by decide +kernel) (by decide +kernel) (by kernel_rfl!) (by kernel_rfl!) (by kernel_rfl!)
theorem fn_secondF (w : World) : Fn (cxOf w) 172 "_law_second" ["word", "cells"] (bodyAt 22) (scopeAt 22) :=
  fn_of (params := paramsAt 22) (pm := (.str ⟨⟨[108,97,119,95,119,106,48,48,52,53,95,48,49]⟩⟩ 2483)) (ca := 171) (o := ob172 w.params) (oc := ob171 w.params) (t := 2492) (by kernel_rfl!) (by kernel_rfl!) (by kernel_rfl!) rfl (by kernel_rfl!)
    (two (n := 0) fun v1 v2 => by kernel_rfl!) (by decide +kernel) (by decide +kernel) (by kernel_rfl!) (by kernel_rfl!) (by kernel_rfl!)
theorem fn_heardF (w : World) : Fn (cxOf w) 179 "_law_heard" ["word", "cells"] (bodyAt 23) (scopeAt 23) :=
  fn_of (params := paramsAt 23) (pm := (.str ⟨⟨[108,97,119,95,119,106,48,48,52,53,95,48,49]⟩⟩ 2483)) (ca := 178) (o := ob179 w.params) (oc := ob178 w.params) (t := 2505) (by kernel_rfl!) (by kernel_rfl!) (by kernel_rfl!) rfl (by kernel_rfl!)
    (two (n := 0) fun v1 v2 => by kernel_rfl!) (by decide +kernel) (by decide +kernel) (by kernel_rfl!) (by kernel_rfl!) (by kernel_rfl!)
theorem fn_mailF (w : World) : Fn (cxOf w) 186 "_law_mail" ["word"] (bodyAt 24) (scopeAt 24) :=
  fn_of (params := paramsAt 24) (pm := (.str ⟨⟨[108,97,119,95,119,106,48,48,52,53,95,48,49]⟩⟩ 2483)) (ca := 185) (o := ob186 w.params) (oc := ob185 w.params) (t := 2518) (by kernel_rfl!) (by kernel_rfl!) (by kernel_rfl!) rfl (by kernel_rfl!)
    (one (n := 0) fun v1 => by kernel_rfl!) (by decide +kernel) (by decide +kernel) (by kernel_rfl!) (by kernel_rfl!) (by kernel_rfl!)
theorem fn_textF (w : World) : Fn (cxOf w) 193 "_law_text" ["word", "cells"] (bodyAt 25) (scopeAt 25) :=
  fn_of (params := paramsAt 25) (pm := (.str ⟨⟨[108,97,119,95,119,106,48,48,52,53,95,48,49]⟩⟩ 2483)) (ca := 192) (o := ob193 w.params) (oc := ob192 w.params) (t := 2529) (by kernel_rfl!) (by kernel_rfl!) (by kernel_rfl!) rfl (by kernel_rfl!)
    (two (n := 0) fun v1 v2 => by kernel_rfl!) (by decide +kernel) (by decide +kernel) (by kernel_rfl!) (by kernel_rfl!) (by kernel_rfl!)
theorem fn_namesF (w : World) : Fn (cxOf w) 200 "_law_names" ["text", "cells"] (bodyAt 26) (scopeAt 26) :=
  fn_of (params := paramsAt 26) (pm := (.str ⟨⟨[108,97,119,95,119,106,48,48,52,53,95,48,49]⟩⟩ 2483)) (ca := 199) (o := ob200 w.params) (oc := ob199 w.params) (t := 2544) (by kernel_rfl!) (by kernel_rfl!) (by kernel_rfl!) rfl (by kernel_rfl!)
    (two (n := 0) fun v1 v2 => by kernel_rfl!) (by decide +kernel) (by decide +kernel) (by kernel_rfl!) (by kernel_rfl!) (by kernel_rfl!)
theorem fn_settledF (w : World) : Fn (cxOf w) 205 "_law_settled" ["word", "cells"] (bodyAt 27) (scopeAt 27) :=
  fn_of (params := paramsAt 27) (pm := (.str ⟨⟨[108,97,119,95,119,106,48,48,52,53,95,48,49]⟩⟩ 2483)) (ca := 204) (o := ob205 w.params) (oc := ob204 w.params) (t := 2560) (by kernel_rfl!) (by kernel_rfl!) (by kernel_rfl!) rfl (by kernel_rfl!)
    (two (n := 0) fun v1 v2 => by kernel_rfl!) (by decide +kernel) (by decide +kernel) (by kernel_rfl!) (by kernel_rfl!) (by kernel_rfl!)
theorem fn_grownF (w : World) : Fn (cxOf w) 210 "_law_grown" ["drawn", "cells"] (bodyAt 28) (scopeAt 28) :=
  fn_of (params := paramsAt 28) (pm := (.str ⟨⟨[108,97,119,95,119,106,48,48,52,53,95,48,49]⟩⟩ 2483)) (ca := 209) (o := ob210 w.params) (oc := ob209 w.params) (t := 2566) (by kernel_rfl!) (by kernel_rfl!) (by kernel_rfl!) rfl (by kernel_rfl!)
    (two (n := 0) fun v1 v2 => by kernel_rfl!) (by decide +kernel) (by decide +kernel) (by kernel_rfl!) (by kernel_rfl!) (by kernel_rfl!)
theorem fn_lawF (w : World) : Fn (cxOf w) 215 "law" ["script"] (bodyAt 29) (scopeAt 29) :=
  fn_of (params := paramsAt 29) (pm := (.str ⟨⟨[108,97,119,95,119,106,48,48,52,53,95,48,49]⟩⟩ 2483)) (ca := 214) (o := ob215 w.params) (oc := ob214 w.params) (t := 2572) (by kernel_rfl!) (by kernel_rfl!) (by kernel_rfl!) rfl (by kernel_rfl!)
    (one (n := 0) fun v1 => by kernel_rfl!) (by decide +kernel) (by decide +kernel) (by kernel_rfl!) (by kernel_rfl!) (by kernel_rfl!)
theorem gl_gap (w : World) : (cxOf w).mg "Int2AP" = some (.ref 51) := by kernel_rfl!
theorem gl_ggt (w : World) : (cxOf w).mg "gt" = some (.ref 58) := by kernel_rfl!
theorem gl_gcount (w : World) : (cxOf w).mg "countOf" = some (.ref 65) := by kernel_rfl!
theorem gl_gindex (w : World) : (cxOf w).mg "indexOf" = some (.ref 72) := by kernel_rfl!
theorem gl_gset (w : World) : (cxOf w).mg "setitem" = some (.ref 79) := by kernel_rfl!
theorem gl_gquote (w : World) : (cxOf w).mg "quotedata" = some (.ref 96) := by kernel_rfl!
theorem gl_gin1 (w : World) : (cxOf w).mg "in_table_b1" = some (.ref 114) := by kernel_rfl!
theorem gl_gmap3 (w : World) : (cxOf w).mg "map_table_b3" = some (.ref 160) := by kernel_rfl!
theorem gl_gdepth (w : World) : (cxOf w).mg "_paren_depth" = some (.ref 44) := by kernel_rfl!
theorem gl_gcells (w : World) : (cxOf w).mg "_law_cells" = some (.ref 165) := by kernel_rfl!
theorem gl_gsecond (w : World) : (cxOf w).mg "_law_second" = some (.ref 172) := by kernel_rfl!
theorem gl_gheard (w : World) : (cxOf w).mg "_law_heard" = some (.ref 179) := by kernel_rfl!
theorem gl_gmail (w : World) : (cxOf w).mg "_law_mail" = some (.ref 186) := by kernel_rfl!
theorem gl_gtext (w : World) : (cxOf w).mg "_law_text" = some (.ref 193) := by kernel_rfl!
theorem gl_gnames (w : World) : (cxOf w).mg "_law_names" = some (.ref 200) := by kernel_rfl!
theorem gl_gsettled (w : World) : (cxOf w).mg "_law_settled" = some (.ref 205) := by kernel_rfl!
theorem gl_ggrown (w : World) : (cxOf w).mg "_law_grown" = some (.ref 210) := by kernel_rfl!
theorem gl_gb1 (w : World) : (cxOf w).mg "b1_set" = some (.ref 104) := by kernel_rfl!
theorem gl_gb3 (w : World) : (cxOf w).mg "b3_exceptions" = some (.ref 115) := by kernel_rfl!
theorem bl_bdivmod (w : World) : (cxOf w).mg "divmod" = none ∧ (cxOf w).mb "divmod" = some (.builtin "divmod") := ⟨by kernel_rfl!, by kernel_rfl!⟩
theorem bl_bsum (w : World) : (cxOf w).mg "sum" = none ∧ (cxOf w).mb "sum" = some (.builtin "sum") := ⟨by kernel_rfl!, by kernel_rfl!⟩
theorem bl_bchr (w : World) : (cxOf w).mg "chr" = none ∧ (cxOf w).mb "chr" = some (.builtin "chr") := ⟨by kernel_rfl!, by kernel_rfl!⟩
theorem bl_bord (w : World) : (cxOf w).mg "ord" = none ∧ (cxOf w).mb "ord" = some (.builtin "ord") := ⟨by kernel_rfl!, by kernel_rfl!⟩
theorem bl_babs (w : World) : (cxOf w).mg "abs" = none ∧ (cxOf w).mb "abs" = some (.builtin "abs") := ⟨by kernel_rfl!, by kernel_rfl!⟩
theorem bl_blen (w : World) : (cxOf w).mg "len" = none ∧ (cxOf w).mb "len" = some (.builtin "len") := ⟨by kernel_rfl!, by kernel_rfl!⟩
theorem bl_brange (w : World) : (cxOf w).mg "range" = none ∧ (cxOf w).mb "range" = some (.type "range") := ⟨by kernel_rfl!, by kernel_rfl!⟩
theorem bl_bint (w : World) : (cxOf w).mg "int" = none ∧ (cxOf w).mb "int" = some (.type "int") := ⟨by kernel_rfl!, by kernel_rfl!⟩
theorem bl_blist (w : World) : (cxOf w).mg "list" = none ∧ (cxOf w).mb "list" = some (.type "list") := ⟨by kernel_rfl!, by kernel_rfl!⟩
theorem bl_benum (w : World) : (cxOf w).mg "enumerate" = none ∧ (cxOf w).mb "enumerate" = some (.type "enumerate") := ⟨by kernel_rfl!, by kernel_rfl!⟩
theorem pg_of (w : World) : PG (cxOf w) where
  apF := fn_apF w
  gtF := fn_gtF w
  countF := fn_countF w
  indexF := fn_indexF w
  setF := fn_setF w
  quoteF := fn_quoteF w
  in1F := fn_in1F w
  map3F := fn_map3F w
  cellsF := fn_cellsF w
  secondF := fn_secondF w
  heardF := fn_heardF w
  mailF := fn_mailF w
  textF := fn_textF w
  namesF := fn_namesF w
  settledF := fn_settledF w
  grownF := fn_grownF w
  lawF := fn_lawF w
  depthK := ⟨ob44 w.params, _, by kernel_rfl!, rfl⟩
  gap := gl_gap w
  ggt := gl_ggt w
  gcount := gl_gcount w
  gindex := gl_gindex w
  gset := gl_gset w
  gquote := gl_gquote w
  gin1 := gl_gin1 w
  gmap3 := gl_gmap3 w
  gdepth := gl_gdepth w
  gcells := gl_gcells w
  gsecond := gl_gsecond w
  gheard := gl_gheard w
  gmail := gl_gmail w
  gtext := gl_gtext w
  gnames := gl_gnames w
  gsettled := gl_gsettled w
  ggrown := gl_ggrown w
  gb1 := gl_gb1 w
  gb3 := gl_gb3 w
  bdivmod := bl_bdivmod w
  bsum := bl_bsum w
  bchr := bl_bchr w
  bord := bl_bord w
  babs := bl_babs w
  blen := bl_blen w
  brange := bl_brange w
  bint := bl_bint w
  blist := bl_blist w
  benum := bl_benum w
end Hd
end Mine
end
section -- H24
open PySem PySem.W PyProof.Rows PySem.Calls
set_option Elab.async false
set_option linter.all false
set_option maxRecDepth 100000
namespace Mine
namespace Hd
variable {w : World}
theorem booked (h : Heap) (T : Top (cxOf w) h) : NoneBooked h :=
  ⟨_, .of_isNs (isNs_of_in T.k (by kernel_rfl!)), nsMap_none_of_in T.k (by kernel_rfl!) (by kernel_rfl!)⟩
noncomputable def b3E : List DictEntry := entsFrom 524 (b3L.take 646) ++ entsShort 2462 (b3L.drop 646)
noncomputable def b3f (k : Int) : Option Value := findBy Value.isInt ⟨b3E⟩ k
theorem hashInt_small {k : Nat} (h : k < 2 ^ 60) : hashInt (k : Int) = k := by
  have h4 : rawHash (k : Int) = k := by
    unfold rawHash
    have h3 : ((k : Int).natAbs : Int) % ((2 ^ 61 - 1 : Nat) : Int) = k := by omega
    have h1 : ¬ ((k : Int) < 0) := by omega
    simp only [h1, if_false]
    rw [h3, if_neg (by simp)]
  unfold hashInt
  rw [h4, if_neg (by simp)]
theorem ents_keys {T : List (Nat × List Nat)} (hk : ∀ p ∈ T, p.1 < 2 ^ 60) : ∀ t, ∀ e ∈ entsFrom t T, ∃ k : Int, Value.isInt k e.key = true ∧ e.hash = hashInt k := by
  induction T with
  | nil => intro t e h; cases h
  | cons x T ih =>
    intro t e h
    rcases List.mem_cons.mp (show e ∈ _ :: entsFrom (t + 3) T from h) with rfl | q
    · exact ⟨(x.1 : Int), by simp [Value.isInt], (hashInt_small (hk x List.mem_cons_self)).symm⟩
    · exact ih (fun p hp => hk p (List.mem_cons_of_mem _ hp)) _ e q
theorem short_keys {T : List (Nat × List Nat)} (hk : ∀ p ∈ T, p.1 < 2 ^ 60) : ∀ t, ∀ e ∈ entsShort t T, ∃ k : Int, Value.isInt k e.key = true ∧ e.hash = hashInt k := by
  induction T with
  | nil => intro t e h; cases h
  | cons x T ih =>
    intro t e h
    rcases List.mem_cons.mp (show e ∈ _ :: entsShort (t + 2) T from h) with rfl | q
    · exact ⟨(x.1 : Int), by simp [Value.isInt], (hashInt_small (hk x List.mem_cons_self)).symm⟩
    · exact ih (fun p hp => hk p (List.mem_cons_of_mem _ hp)) _ e q
theorem dict_of (h : Heap) (T : Top (cxOf w) h) : h.MapOf (intKind PySem.Challenge.pw_wj0045_01 w) 115 b3f := by
  refine ⟨ob115 w.params, ⟨b3E⟩, 650, T.k _ _ (by kernel_rfl!), ⟨rfl, rfl, rfl⟩, rfl, fun e he => ?_, fun k => rfl⟩
  have he : e ∈ b3E := by simpa using he
  rcases List.mem_append.mp he with q | q
  · exact ents_keys (fun p hp => table_small p (List.mem_of_mem_take hp)) _ e q
  · exact short_keys (fun p hp => table_small p (List.mem_of_mem_drop hp)) _ e q
noncomputable def setEs (P : Params) : List (Int × Value) := match (ob104 P).data with | .set es _ _ => es.toList | _ => []
noncomputable def setTb (P : Params) : SetTable := match (ob104 P).data with | .set _ _ t => t | _ => default
noncomputable def setS (w : World) (k : Int) : Bool := (setEs w.params).any fun e => Value.isInt k e.2
theorem set_of (h : Heap) (T : Top (cxOf w) h) : h.SetOf (intKind PySem.Challenge.pw_wj0045_01 w) 104 (setS w) 27 := by
  refine ⟨ob104 w.params, ⟨setEs w.params⟩, 29, setTb w.params, T.k _ _ (by kernel_rfl!), ⟨rfl, rfl, rfl⟩, rfl, fun e he => ?_, fun k => ?_, by show (27 : Nat) < 4096; decide, by kernel_rfl!, rfl⟩
  · have hh : ∀ e ∈ setEs w.params, ∃ n : Nat, ∃ t, n < 2 ^ 60 ∧ e = ((n : Int), .int (n : Int) t) := by
      unfold setEs ob104
      simp only [List.mem_cons, List.not_mem_nil, or_false]
      intro e he
      rcases he with rfl | rfl | rfl | rfl | rfl | rfl | rfl | rfl | rfl | rfl | rfl | rfl | rfl | rfl | rfl | rfl | rfl | rfl | rfl | rfl | rfl | rfl | rfl | rfl | rfl | rfl | rfl <;> exact ⟨_, _, by decide, rfl⟩
    obtain ⟨n, t, hn, rfl⟩ := hh e he
    exact ⟨⟨(n : Int), by show ((n : Int) == n) = true; simp, (hashInt_small hn).symm⟩, rfl⟩
  · unfold setS
    rw [List.any_eq_true]
    exact Iff.rfl
theorem sgt (fm : Int) : ∀ n ∈ sgOf fm, setS w (n : Int) = true := by
  have h : ∀ j : Nat, j < 16 → setS w ((65024 + j : Nat) : Int) = true := by
    intro j hj
    have e : (List.range 16).all (fun j => setS w ((65024 + j : Nat) : Int)) = true := by kernel_rfl!
    exact List.all_eq_true.mp e j (List.mem_range.mpr hj)
  have h1 : setS w ((173 : Nat) : Int) = true := by kernel_rfl!
  have h2 : setS w ((8203 : Nat) : Int) = true := by kernel_rfl!
  unfold sgOf sgL
  have hj : (fm % 16).toNat < 16 := by omega
  have h3 := h _ hj
  generalize (fm % 16).toNat = i at h3
  generalize (fm % 4).toNat = j
  match j with
  | 0 => intro n hn; simp at hn
  | 1 => intro n hn; simp at hn; subst hn; exact h1
  | 2 => intro n hn; simp at hn; subst hn; exact h2
  | 3 => intro n hn; simp at hn; subst hn; exact h3
  | j + 4 => intro n hn; simp at hn
/-- the thirty letters -/
noncomputable def letters : List (Nat × Nat) := (List.range 6).flatMap fun (x : Nat) => baseL.map fun (b : Int) => ((b + (x : Int)).toNat, x)
theorem lt_mem (fm x : Int) (h0 : 0 ≤ x) (h5 : x ≤ 5) : (ltOf fm x, x.toNat) ∈ letters := by
  unfold ltOf letters
  rw [List.mem_flatMap]
  refine ⟨x.toNat, List.mem_range.mpr (by omega), List.mem_map.mpr ⟨baseL.getD (fm % 5).toNat 0, ?_, ?_⟩⟩
  · have hr : (fm % 5).toNat < baseL.length := by show _ < 5; omega
    rw [List.getD_eq_getElem?_getD, List.getElem?_eq_getElem hr]
    exact List.getElem_mem hr
  · rw [show ((x.toNat : Nat) : Int) = x by omega]
noncomputable def lookT (n : Nat) : List (Nat × List Nat) → Option (List Nat)
  | [] => none
  | (k, s) :: r => match Nat.beq k n with
    | true => some s
    | false => lookT n r
theorem isInt_cast (k n : Nat) (t : Nat) : Value.isInt (n : Int) (.int (k : Int) t) = Nat.beq k n := by
  show ((k : Int) == n) = _
  rw [PySem.W.BT.beq_eq]
  by_cases h : k = n
  · subst h; simp
  · have : ((k : Int) == n) = false := by simp; omega
    rw [this, decide_eq_false h]
theorem look_ents (n : Nat) : ∀ (T : List (Nat × List Nat)) (t : Nat), (lookT n T = none → (entsFrom t T).find? (fun e => Value.isInt (n : Int) e.key) = none) ∧
    ∀ s, lookT n T = some s → ∃ (e : DictEntry) (u : Nat), (entsFrom t T).find? (fun e => Value.isInt (n : Int) e.key) = some e ∧ e.val = .str ⟨⟨s⟩⟩ u ∧ t < u ∧ u ≤ t + 3 * T.length
  | [], t => ⟨fun _ => rfl, fun s h => nomatch h⟩
  | (k, v) :: r, t => by
    have ih := look_ents n r (t + 3)
    have e1 : (entsFrom t ((k, v) :: r)).find? (fun e => Value.isInt (n : Int) e.key) = match Nat.beq k n with
      | true => some ⟨(k : Int), .int (k : Int) t, .str ⟨⟨v⟩⟩ (t + 1)⟩
      | false => (entsFrom (t + 3) r).find? (fun e => Value.isInt (n : Int) e.key) := by
      show List.find? _ (_ :: entsFrom (t + 3) r) = _
      rw [List.find?_cons]
      show (match Value.isInt (n : Int) (.int (k : Int) t) with | true => _ | false => _) = _
      rw [isInt_cast]
    rw [e1]
    unfold lookT
    cases h : Nat.beq k n with
    | true =>
      refine ⟨fun q => (nomatch q), fun s q => ?_⟩
      cases q
      exact ⟨_, t + 1, rfl, rfl, by omega, by simp; omega⟩
    | false =>
      refine ⟨ih.1, fun s q => ?_⟩
      obtain ⟨e, u, a, b, c, d⟩ := ih.2 s q
      exact ⟨e, u, a, b, by omega, by simp; omega⟩
theorem look_short (n : Nat) : ∀ (T : List (Nat × List Nat)) (t : Nat), lookT n T = none → (entsShort t T).find? (fun e => Value.isInt (n : Int) e.key) = none
  | [], t => fun _ => rfl
  | (k, v) :: r, t => by
    intro h
    unfold lookT at h
    show List.find? _ (_ :: entsShort (t + 2) r) = none
    rw [List.find?_cons]
    show (match Value.isInt (n : Int) (.int (k : Int) t) with | true => _ | false => _) = _
    rw [isInt_cast]
    cases q : Nat.beq k n with
    | true => rw [q] at h; cases h
    | false => rw [q] at h; exact look_short n r (t + 2) h
theorem b3f_some {n : Nat} {s : List Nat} (h : lookT n (b3L.take 646) = some s) : ∃ u : Nat, b3f (n : Int) = some (.str ⟨⟨s⟩⟩ u) ∧ 524 < u ∧ u ≤ 2462 := by
  obtain ⟨e, u, a, b, c, d⟩ := (look_ents n (b3L.take 646) 524).2 s h
  refine ⟨u, ?_, c, ?_⟩
  · unfold b3f findBy b3E
    rw [List.find?_toArray, List.find?_append, a]
    show some e.val = _
    rw [b]
  · have : (b3L.take 646).length ≤ 646 := List.length_take_le _ _
    omega
theorem b3f_none {n : Nat} (h : lookT n (b3L.take 646) = none) (h' : lookT n (b3L.drop 646) = none) : b3f (n : Int) = none := by
  unfold b3f findBy b3E
  rw [List.find?_toArray, List.find?_append, (look_ents n (b3L.take 646) 524).1 h, look_short n _ _ h']
  rfl
noncomputable def lowOk (n x : Nat) : Bool := match lookT n (b3L.take 646) with
  | some s => Fast.lEq s [97 + x]
  | none => (lookT n (b3L.drop 646)).isNone && Fast.lEq (placed (⟨[n].toArray⟩ : Str) fun i _ => Unicode.lowerAt [n].toArray i).toList [97 + x]
theorem low_all : letters.all (fun p => lowOk p.1 p.2) = true := by kernel_rfl!
theorem ltf (fm x : Int) (h0 : 0 ≤ x) (h5 : x ≤ 5) : setS w (ltOf fm x : Int) = false := by
  have e : letters.all (fun p => !setS w (p.1 : Int)) = true := by kernel_rfl!
  have := List.all_eq_true.mp e _ (lt_mem fm x h0 h5)
  simpa using this
theorem hf (fm x : Int) (h0 : 0 ≤ x) (h5 : x ≤ 5) : (∃ u0, b3f (ltOf fm x : Int) = some (.str ⟨[97 + x.toNat].toArray⟩ u0) ∧ u0 ≠ 0 ∧ u0 < 2577) ∨ (b3f (ltOf fm x : Int) = none ∧ (placed (⟨[ltOf fm x].toArray⟩ : Str) fun i _ => Unicode.lowerAt [ltOf fm x].toArray i) = [97 + x.toNat].toArray) := by
  have := List.all_eq_true.mp low_all _ (lt_mem fm x h0 h5)
  generalize ltOf fm x = n at this
  unfold lowOk at this
  split at this
  · rename_i s e
    have h1 := Fast.lEq_iff.mp this
    obtain ⟨u, a, b, c⟩ := b3f_some e
    refine .inl ⟨u, by rw [a, h1], fun z => ?_, Nat.lt_of_le_of_lt c (by decide)⟩
    have z : (u : Nat) = 0 := z
    omega
  · rename_i e
    obtain ⟨h1, h2⟩ := Bool.and_eq_true_iff.mp this
    have h2 := Fast.lEq_iff.mp h2
    exact .inr ⟨b3f_none e (Option.isNone_iff_eq_none.mp h1), Array.toList_inj.mp h2⟩
theorem heard_ok (w : World) (k : Nat) (wd cells : List Int) (hv : Valid wd) (hc : cells.length = 9) (h0 : ∀ v ∈ cells, 0 ≤ v) : CALLn 2577 (cxOf w) (k + 3) (.ref 179) [IL wd, IL cells] (IL wd) :=
  heard_call (pg_of w) booked dict_of set_of wd cells hv hc h0 (by decide) sgt ltf hf
end Hd
end Mine
end
section -- F15
open PySem PySem.W PyProof.Rows PySem.Calls
set_option Elab.async false
set_option linter.all false
set_option maxRecDepth 100000
namespace Mine
variable {c : Cx} {k : Nat}
theorem strs_rep {O : Addr → Prop} {h : Heap} : ∀ (ps : List (List Nat)) (t : Nat), RepL O h (strsFrom t (ps.map fun p => ⟨p.toArray⟩)) (ps.map .str)
  | [], _ => .nil
  | p :: r, t => .cons (.str p t) (strs_rep r (t + 1))
theorem CALL.ssplit {x y : List Nat} {ps : List (List Nat)} (h1 : (decide ((⟨x.toArray⟩ : Str).length < (⟨y.toArray⟩ : Str).length) || decide (Builtin.Str.strKind ⟨x.toArray⟩ < Builtin.Str.strKind ⟨y.toArray⟩)) = false) (hy : ((⟨y.toArray⟩ : Str).length == 0) = false)
    (hf : (Builtin.Str.occurrences ⟨x.toArray⟩ ⟨y.toArray⟩ 0 (⟨x.toArray⟩ : Str).length ((⟨x.toArray⟩ : Str).length + 1)).isEmpty = false) (hx : x.length ≤ 1000)
    (hp : Builtin.Str.partsBetween ⟨x.toArray⟩ (Builtin.Str.occurrences ⟨x.toArray⟩ ⟨y.toArray⟩ 0 (⟨x.toArray⟩ : Str).length ((⟨x.toArray⟩ : Str).length + 1)) (⟨y.toArray⟩ : Str).length = ps.map fun p => ⟨p.toArray⟩) (hz : ps.length ≤ 1000) :
    CALL c k (.builtin "str.split") [.str x, .str y] (.list (ps.map .str)) := by
  refine .mk ?_
  intro A s Q E O vs ao T ob r h
  cases r with | cons r1 r2 =>
  cases r2 with | cons r2 r3 =>
  cases r3
  cases r1; cases r2
  refine call_meets PySem.F.slot_str_split (typeIs_str _ _ _) PySem.F.entry_str_split (PySem.F.args_str_split_2 _ _) (meets_str_split_sep _ _ _ _ h1 hy hf (by show (Array.size _) ≤ _; rw [sizeLine_eq]; simp; omega) (by rw [hp, List.length_map, sizeLine_eq]; omega)) ?_
  rw [hp]
  exact h _ _ _ Kp.push (rep_newList ob (strs_rep ps _))
theorem rows_split : ∀ m, 2 ≤ m → m ≤ 7 → CALL c k (.builtin "str.split") [.str (dots m ++ [13, 10] ++ dots m), .str [13, 10]] (.list [.str (dots m), .str (dots m)]) := by
  intro m h2 h7
  have : m = 2 ∨ m = 3 ∨ m = 4 ∨ m = 5 ∨ m = 6 ∨ m = 7 := by omega
  rcases this with rfl | rfl | rfl | rfl | rfl | rfl
  · exact CALL.ssplit (ps := [dots 2, dots 2]) (by decide +kernel) (by decide +kernel) (by decide +kernel) (by decide) (by decide +kernel) (by decide)
  · exact CALL.ssplit (ps := [dots 3, dots 3]) (by decide +kernel) (by decide +kernel) (by decide +kernel) (by decide) (by decide +kernel) (by decide)
  · exact CALL.ssplit (ps := [dots 4, dots 4]) (by decide +kernel) (by decide +kernel) (by decide +kernel) (by decide) (by decide +kernel) (by decide)
  · exact CALL.ssplit (ps := [dots 5, dots 5]) (by decide +kernel) (by decide +kernel) (by decide +kernel) (by decide) (by decide +kernel) (by decide)
  · exact CALL.ssplit (ps := [dots 6, dots 6]) (by decide +kernel) (by decide +kernel) (by decide +kernel) (by decide) (by decide +kernel) (by decide)
  · exact CALL.ssplit (ps := [dots 7, dots 7]) (by decide +kernel) (by decide +kernel) (by decide +kernel) (by decide) (by decide +kernel) (by decide)
end Mine
end
section -- H25
open PySem PySem.W PyProof.Rows PySem.Calls
set_option Elab.async false
set_option linter.all false
set_option maxRecDepth 100000
namespace Mine
namespace Hd
variable {w : World}
theorem pat1 (h : Heap) (T : Top (cxOf w) h) : PatIs h 84 code1 0 :=
  ⟨ob84 w.params, 83, _, _, _, _, _, _, T.k _ _ (by kernel_rfl!), rfl, rfl, rfl, ob83 w.params, 0, T.k _ _ (by kernel_rfl!), by kernel_rfl!⟩
theorem pat2 (h : Heap) (T : Top (cxOf w) h) : PatIs h 89 code2 0 :=
  ⟨ob89 w.params, 88, _, _, _, _, _, _, T.k _ _ (by kernel_rfl!), rfl, rfl, rfl, ob88 w.params, 0, T.k _ _ (by kernel_rfl!), by kernel_rfl!⟩
theorem patQ (h : Heap) (T : Top (cxOf w) h) : PatIs h 36 codeQ 1 :=
  ⟨ob36 w.params, 35, _, _, _, _, _, _, T.k _ _ (by kernel_rfl!), rfl, rfl, rfl, ob35 w.params, 0, T.k _ _ (by kernel_rfl!), by kernel_rfl!⟩
theorem subs_all : (List.range 6).all (fun n => (List.range 3).all fun j => subIs code2 (dots (n + 1) ++ sepL.getD j [] ++ dots (n + 1)) [13, 10] (dots (n + 1) ++ [13, 10] ++ dots (n + 1))) = true := by kernel_rfl!
theorem subs_dots : (List.range 6).all (fun n => subIs code1 (dots (n + 1) ++ [13, 10] ++ dots (n + 1)) [46, 46] (dots (n + 2) ++ [13, 10] ++ dots (n + 2))) = true := by kernel_rfl!
theorem EV.globalStr {c : Cx} {k : Nat} {env : Env} {O : Addr → Prop} {ρ : List (Str × Ent)} {x : Str} {p : Pos} {l : List Nat} {t : Tok} (hx : env.kindOf x = some .globalImplicit) (hv : c.mg x = some (.str ⟨l.toArray⟩ t)) (hd : (x == ("__debug__" : Str)) = false := by decide +kernel) : EV c k env O ρ (.Name x p) (.str l) :=
  .mk fun A s Q E a T F h => EV.globalName T F hx hv (h _ s.heap s.toks Kp.refl (.str l t)) hd
theorem quote_call (k : Nat) : ∀ n, 1 ≤ n → n ≤ 6 → ∀ j, j < 3 → CALL (cxOf w) (k + 3) (.ref 96) [.str (dots n ++ sepL.getD j [] ++ dots n)] (.str (dots (n + 1) ++ [13, 10] ++ dots (n + 1))) := by
  intro n hn1 hn6 j hj
  have h1 := List.all_eq_true.mp (List.all_eq_true.mp subs_all (n - 1) (List.mem_range.mpr (by omega))) j (List.mem_range.mpr hj)
  have h2 := List.all_eq_true.mp subs_dots (n - 1) (List.mem_range.mpr (by omega))
  rw [show n - 1 + 1 = n by omega] at h1 h2
  rw [show n - 1 + 2 = n + 1 by omega] at h2
  obtain ⟨P1, s1, f1, l1⟩ := subIs_ok h1
  obtain ⟨P2, s2, f2, l2⟩ := subIs_ok h2
  have hx1 : (dots n ++ sepL.getD j [] ++ dots n).length ≤ 100 := by
    have : (sepL.getD j []).length ≤ 2 := by
      match j, hj with
      | 0, _ => decide
      | 1, _ => decide
      | 2, _ => decide
    simp only [List.length_append, List.length_replicate]; omega
  refine (pg_of w).quoteF.enter rfl fun O₀ L cd => ?_
  refine XS.cast (ρ₁ := [("data", .val (.str (dots n ++ sepL.getD j [] ++ dots n)))]) rfl ?_
  refine XS.ret (by walk_at "frz") ?_
  have fl1 : P1.flatten.length ≤ 100 := by rw [f1]; simp; omega
  have fl2 : P2.flatten.length ≤ 100 := by rw [f2]; simp; omega
  rw [← f2]
  refine EV.subS pat1 (by walk_at "kind") (show (cxOf w).mg "_twin_re_1" = some (.ref 84) by kernel_rfl!) (by decide) (l := dots n ++ [13, 10] ++ dots n) (by simp; omega) s2 (by omega) (by omega) (EV.strC rfl) ?_
  rw [← f1]
  refine EV.subS pat2 (by walk_at "kind") (show (cxOf w).mg "_twin_re_2" = some (.ref 89) by kernel_rfl!) (by decide) (by omega) s1 (by omega) (by omega) (EV.globalStr (by walk_at "kind") (show (cxOf w).mg "CRLF" = some (.str ⟨[13, 10].toArray⟩ 446) by kernel_rfl!)) (by walk_at "ev")
theorem mail_ok (k : Nat) (wd : List Int) (hv : Valid wd) : CALL (cxOf w) (k + 4) (.ref 186) [IL wd] (SL (rowsOf wd)) :=
  mail_call (k := k + 3) (pg_of w) wd hv (quote_call k) rows_split
end Hd
end Mine
end
section -- H26
open PySem PySem.W PyProof.Rows PySem.Calls
set_option Elab.async false
set_option linter.all false
set_option maxRecDepth 100000
namespace Mine
namespace Hd
variable {w : World}
noncomputable abbrev fdD (pm : Value) : FuncData := { docDef "_paren_depth" (paramsAt 3) (bodyAt 3) (scopeAt 3) pm (.ref 43) .none with defaults := .ref 37 }
theorem bind_tree (pm v1 v2 : Value) : bindArgs (fdD pm) ⟨[v1, v2], []⟩ = .load 37 none (loadK (bindArgs (fdD pm) ⟨[v1, v2], []⟩)) := by kernel_rfl!
theorem bind_leaf (P : Params) (pm v1 v2 : Value) : loadK (bindArgs (fdD pm) ⟨[v1, v2], []⟩) (ob37 P) = pure ([("data" : Str), "depth"].zip [v1, v2]) := by kernel_rfl!
theorem depth_fn : FnD (cxOf w) 44 "_paren_depth" ["data", "depth"] (bodyAt 3) (scopeAt 3) :=
  ⟨⟨ob44 w.params, paramsAt 3, _, .ref 43, .none, .ref 37, by kernel_rfl!, rfl, fun h T => ⟨43, ob43 w.params, _, _, rfl, T.k _ _ (by kernel_rfl!), rfl, rfl⟩, two (n := 0) fun v1 v2 A s Q E T hq => by
      rw [bind_tree]
      refine wpAny_node (T.k 37 (ob37 w.params) (by kernel_rfl!)) ?_
      rw [bind_leaf]
      exact wpAny_pure hq⟩, by unfold ParamOk; decide +kernel, by decide +kernel, by kernel_rfl!, by kernel_rfl!, by kernel_rfl!⟩
theorem plain_le : ∀ (segs : List (List Nat × Nat)) (tl : List Nat), (plainS segs tl).length ≤ (textS segs tl).length
  | [], tl => Nat.le_refl _
  | (cs, j) :: r, tl => by
    have := plain_le r tl
    unfold plainS textS at this ⊢
    simp only [List.flatMap_cons, List.length_append] at this ⊢
    omega
theorem toNat_toB {l : List Nat} (h : ∀ x ∈ l, x < 256) : (toB l).map UInt8.toNat = l := by
  unfold toB
  rw [List.map_map]
  conv => rhs; rw [← List.map_id l]
  refine List.map_congr_left fun x hx => ?_
  have := h x hx
  show (Nat.toUInt8 x).toNat = x
  simp [Nat.toUInt8, UInt8.toNat_ofNat']
  omega
theorem depth_call (k : Nat) (segs : List (List Nat × Nat)) (tl : List Nat) (d : Int) (hc : ∀ p ∈ segs, ∀ x ∈ p.1, x ≠ 34) (ht : ∀ x ∈ tl, x ≠ 34) (hb : ∀ x ∈ textS segs tl, x < 256) (hz : (textS segs tl).length ≤ 10000) (hs : segs.length ≤ 1000) :
    CALL (cxOf w) (k + 4) (.ref 44) [.bytes (toB (textS segs tl)), .int d] (.int (d + ((toB (plainS segs tl)).count 40 : Nat) - ((toB (plainS segs tl)).count 41 : Nat))) := by
  obtain ⟨P, hP, hf, hl⟩ := subs_quoted segs tl [] hc ht (by simpa using hz)
  rw [List.nil_append] at hP
  refine depth_fn.enter rfl fun O₀ L cd => ?_
  refine XS.cast (ρ₁ := [("data", .val (.bytes (toB (textS segs tl)))), ("depth", .val (.int d))]) rfl ?_
  refine XS.assign (d := .bytes (toB (plainS segs tl))) ?_ (by walk_at "kind") ?_
  · rw [← hf]
    have hlen : P.flatten.length ≤ 10000 := by
      rw [hf]
      exact Nat.le_trans (plain_le segs tl) hz
    exact EV.subB (l := toB (textS segs tl)) patQ (by walk_at "kind") (show (cxOf w).mg "_quoted" = some (.ref 36) by kernel_rfl!) (by unfold toB; rw [List.length_map]; omega) (by rw [toNat_toB hb]; exact hP) (by omega) (by omega) EV.bytesC (by walk_at "ev")
  walk_at "set"
  refine XS.ret (by walk_at "frz") ?_
  refine EV.sub_int (EV.add_int (by walk_at "ev") ?_) ?_
  · exact EV.meth1 (T := "bytes") (d1 := .bytes (toB (plainS segs tl))) (d2 := .bytes [40]) (by walk_at "ev") EV.bytesC rfl FB.plainAttrs_bytes slot_bytes_count type_bytes_count CALL.bcount
  · exact EV.meth1 (T := "bytes") (d1 := .bytes (toB (plainS segs tl))) (d2 := .bytes [41]) (by walk_at "ev") EV.bytesC rfl FB.plainAttrs_bytes slot_bytes_count type_bytes_count CALL.bcount
end Hd
end Mine
end
end
section -- P5
open PySem PySem.W PyProof.Rows PySem.Calls
set_option Elab.async false
set_option linter.all false
set_option maxRecDepth 100000
namespace Mine
noncomputable def natName (v : Int) (i : Nat) : List Nat := (nameB v i).map UInt8.toNat
noncomputable def quoJ (v : Int) : Nat := (v / 7 % 3).toNat
theorem toB_nat (l : List UInt8) : toB (l.map UInt8.toNat) = l := by
  unfold toB
  rw [List.map_map]
  conv => rhs; rw [← List.map_id l]
  refine List.map_congr_left fun x _ => ?_
  simp
theorem toB_app (a b : List Nat) : toB (a ++ b) = toB a ++ toB b := by unfold toB; rw [List.map_append]
theorem quoJ_is (v : Int) : toB (quoteL (quoJ v)) = quoB v := by
  have hj : (v / 7 % 3).toNat < 3 := by omega
  unfold quoB quoJ
  generalize (v / 7 % 3).toNat = j at hj
  match j, hj with
  | 0, _ => decide
  | 1, _ => decide
  | 2, _ => decide
noncomputable def segsOf (cells : List Int) (acc : List Nat) : List Nat → List (List Nat × Nat) × List Nat
  | [] => ([], acc)
  | y :: r => match y with
    | 0 => segsOf cells (acc ++ [120]) r
    | 1 => segsOf cells (acc ++ [41]) r
    | i + 2 => ((acc ++ [40], quoJ (cells.getD i 0)) :: (segsOf cells ([47] ++ natName (cells.getD i 0) i ++ [47]) r).1, (segsOf cells ([47] ++ natName (cells.getD i 0) i ++ [47]) r).2)
theorem nat_name (v : Int) (i : Nat) : ∀ x ∈ natName v i, 65 ≤ x ∧ x ≤ 80 := by
  intro x hx
  obtain ⟨y, hy, rfl⟩ := List.mem_map.mp hx
  exact name_bytes v i y hy
theorem segs_text (cells : List Int) : ∀ (p acc : List Nat), toB (textS (segsOf cells acc p).1 (segsOf cells acc p).2) = toB acc ++ inst cells p
  | [], acc => by show toB acc = toB acc ++ []; rw [List.append_nil]
  | 0 :: r, acc => by
    show toB (textS (segsOf cells (acc ++ [120]) r).1 (segsOf cells (acc ++ [120]) r).2) = toB acc ++ ([120] ++ inst cells r)
    rw [segs_text cells r, toB_app, List.append_assoc]; rfl
  | 1 :: r, acc => by
    show toB (textS (segsOf cells (acc ++ [41]) r).1 (segsOf cells (acc ++ [41]) r).2) = toB acc ++ ([41] ++ inst cells r)
    rw [segs_text cells r, toB_app, List.append_assoc]; rfl
  | (i + 2) :: r, acc => by
    have ih := segs_text cells r ([47] ++ natName (cells.getD i 0) i ++ [47])
    have e : ∀ (cs : List Nat) (j : Nat) (s : List (List Nat × Nat)) (t : List Nat), textS ((cs, j) :: s) t = cs ++ (quoteL j ++ textS s t) := by intro cs j s t; simp [textS]
    show toB (textS ((acc ++ [40], quoJ (cells.getD i 0)) :: (segsOf cells _ r).1) (segsOf cells _ r).2) = toB acc ++ (([40] ++ quoB (cells.getD i 0) ++ [47] ++ nameB (cells.getD i 0) i ++ [47]) ++ inst cells r)
    rw [e, toB_app, toB_app, toB_app, quoJ_is, ih, toB_app, toB_app]
    have en : toB (natName (cells.getD i 0) i) = nameB (cells.getD i 0) i := toB_nat _
    rw [en]
    show toB acc ++ [40] ++ (quoB (cells.getD i 0) ++ ([47] ++ nameB (cells.getD i 0) i ++ [47] ++ inst cells r)) = _
    simp
noncomputable def Fine (l : List Nat) : Prop := ∀ x ∈ l, x ≠ 34 ∧ x < 256
theorem fine_app {a b : List Nat} (h : Fine a) (k : Fine b) : Fine (a ++ b) := fun x hx => (List.mem_append.mp hx).elim (h x) (k x)
theorem fine_name (v : Int) (i : Nat) : Fine ([47] ++ natName v i ++ [47]) := by
  intro x hx
  simp only [List.mem_append, List.mem_singleton] at hx
  rcases hx with (rfl | h) | rfl
  · decide
  · have := nat_name v i x h; omega
  · decide
theorem quote_small (j : Nat) : ∀ x ∈ quoteL j, x < 256 := by
  match j with
  | 0 => decide
  | 1 => decide
  | j + 2 => show ∀ x ∈ [34, 41, 92, 34, 34], x < 256; decide
theorem segs_fine (cells : List Int) : ∀ (p acc : List Nat), Fine acc → (∀ s ∈ (segsOf cells acc p).1, Fine s.1) ∧ Fine (segsOf cells acc p).2 ∧ (segsOf cells acc p).1.length = opens p
  | [], acc, h => ⟨fun s q => (nomatch q), h, rfl⟩
  | 0 :: r, acc, h => segs_fine cells r (acc ++ [120]) (fine_app h (by intro x q; rw [List.mem_singleton.mp q]; decide))
  | 1 :: r, acc, h => segs_fine cells r (acc ++ [41]) (fine_app h (by intro x q; rw [List.mem_singleton.mp q]; decide))
  | (i + 2) :: r, acc, h => by
    obtain ⟨a, b, c⟩ := segs_fine cells r ([47] ++ natName (cells.getD i 0) i ++ [47]) (fine_name _ _)
    refine ⟨fun s q => ?_, b, congrArg Nat.succ c⟩
    rcases List.mem_cons.mp (show s ∈ (acc ++ [40], quoJ (cells.getD i 0)) :: _ from q) with rfl | q
    · exact fine_app h (by intro x q; rw [List.mem_singleton.mp q]; decide)
    · exact a s q
theorem text_small {segs : List (List Nat × Nat)} {tl : List Nat} (h : ∀ s ∈ segs, Fine s.1) (ht : Fine tl) : ∀ x ∈ textS segs tl, x < 256 := by
  intro x hx
  rcases List.mem_append.mp hx with q | q
  · obtain ⟨s, hs, q⟩ := List.mem_flatMap.mp q
    rcases List.mem_append.mp q with q | q
    · exact (h s hs x q).2
    · exact quote_small _ x q
  · exact (ht x q).2
theorem name_no (v : Int) (i : Nat) : (toB ([47] ++ natName v i ++ [47])).count 40 = 0 ∧ (toB ([47] ++ natName v i ++ [47])).count 41 = 0 := by
  rw [toB_app, toB_app, show toB (natName v i) = nameB v i from toB_nat _]
  have h : ∀ y : UInt8, y.toNat < 65 → (nameB v i).count y = 0 := fun y hy => List.count_eq_zero.mpr fun q => by
    have := (name_bytes v i _ q).1; omega
  constructor
  · rw [List.count_append, List.count_append, h 40 (by decide)]; rfl
  · rw [List.count_append, List.count_append, h 41 (by decide)]; rfl
theorem segs_count (cells : List Int) : ∀ (p acc : List Nat), (toB (plainS (segsOf cells acc p).1 (segsOf cells acc p).2)).count 40 = (toB acc).count 40 + opens p ∧ (toB (plainS (segsOf cells acc p).1 (segsOf cells acc p).2)).count 41 = (toB acc).count 41 + closes p
  | [], acc => ⟨rfl, rfl⟩
  | 0 :: r, acc => by
    obtain ⟨a, b⟩ := segs_count cells r (acc ++ [120])
    rw [toB_app, List.count_append] at a b
    exact ⟨a, b⟩
  | 1 :: r, acc => by
    obtain ⟨a, b⟩ := segs_count cells r (acc ++ [41])
    rw [toB_app, List.count_append] at a b
    refine ⟨a, b.trans ?_⟩
    show (toB acc).count 41 + 1 + closes r = (toB acc).count 41 + (closes r + 1)
    omega
  | (i + 2) :: r, acc => by
    obtain ⟨a, b⟩ := segs_count cells r ([47] ++ natName (cells.getD i 0) i ++ [47])
    obtain ⟨n1, n2⟩ := name_no (cells.getD i 0) i
    rw [n1] at a
    rw [n2] at b
    have e : ∀ (cs : List Nat) (j : Nat) (s : List (List Nat × Nat)) (t : List Nat), plainS ((cs, j) :: s) t = cs ++ plainS s t := by intro cs j s t; simp [plainS]
    have e2 : plainS (segsOf cells acc ((i + 2) :: r)).1 (segsOf cells acc ((i + 2) :: r)).2 = (acc ++ [40]) ++ plainS (segsOf cells ([47] ++ natName (cells.getD i 0) i ++ [47]) r).1 (segsOf cells ([47] ++ natName (cells.getD i 0) i ++ [47]) r).2 := e _ _ _ _
    rw [e2, toB_app, toB_app, List.count_append, List.count_append, List.count_append, List.count_append, a, b]
    refine ⟨?_, ?_⟩
    · show (toB acc).count 40 + 1 + (0 + opens r) = (toB acc).count 40 + (opens r + 1)
      omega
    · show (toB acc).count 41 + 0 + (0 + closes r) = (toB acc).count 41 + closes r
      omega
noncomputable def dpF (d : Int) (ps : List (List Nat)) : Nat → Int
  | 0 => d
  | j + 1 => dpF d ps j + (opens (ps.getD j []) : Nat) - (closes (ps.getD j []) : Nat)
theorem dpF_cons (d : Int) (p : List Nat) (r : List (List Nat)) : ∀ j, dpF d (p :: r) (j + 1) = dpF (d + (opens p : Nat) - (closes p : Nat)) r j
  | 0 => rfl
  | j + 1 => by
    have ih := dpF_cons d p r j
    show dpF d (p :: r) (j + 1) + _ - _ = dpF _ r j + _ - _
    rw [ih]; rfl
theorem deeps_is : ∀ (ps : List (List Nat)) (d : Nat) (X : List Nat), deeps d ps = X ++ [1] → ps.length = X.length + 1 ∧ ∀ j, j < ps.length → 1 ≤ (X ++ [1]).getD j 0 ∧ dpF d ps (j + 1) = ((X ++ [1]).getD j 0 : Int) - 1
  | [], d, X, h => by simp [deeps] at h
  | p :: r, d, X, h => by
    unfold deeps at h
    cases q : Nat.ble (closes p) (d + opens p) with
    | false =>
      rw [q] at h
      cases X with
      | nil => cases h
      | cons a X => cases X <;> simp at h
    | true =>
      rw [q] at h
      have hle := Nat.le_of_ble_eq_true q
      have e0 : (d : Int) + (opens p : Nat) - (closes p : Nat) = ((d + opens p - closes p : Nat) : Int) := by omega
      cases X with
      | nil =>
        obtain ⟨h1, h2⟩ := List.cons.inj (show (d + opens p - closes p + 1) :: deeps (d + opens p - closes p) r = [1] from h)
        have hr : r = [] := by
          cases r with
          | nil => rfl
          | cons a r => unfold deeps at h2; split at h2 <;> cases h2
        subst hr
        refine ⟨rfl, fun j hj => ?_⟩
        have : j = 0 := by simpa using hj
        subst this
        refine ⟨Nat.le_refl 1, ?_⟩
        rw [dpF_cons, e0]
        show ((d + opens p - closes p : Nat) : Int) = 1 - 1
        omega
      | cons a X =>
        obtain ⟨h1, h2⟩ := List.cons.inj (show (d + opens p - closes p + 1) :: deeps (d + opens p - closes p) r = a :: (X ++ [1]) from h)
        obtain ⟨i1, i2⟩ := deeps_is r _ X h2
        refine ⟨by simp [i1], fun j hj => ?_⟩
        cases j with
        | zero =>
          refine ⟨by show 1 ≤ a; omega, ?_⟩
          rw [dpF_cons, e0]
          show ((d + opens p - closes p : Nat) : Int) = (a : Int) - 1
          omega
        | succ j =>
          have := i2 j (by simpa using hj)
          rw [dpF_cons, e0]
          exact this
theorem opens_le (cells : List Int) : ∀ p, opens p ≤ (inst cells p).length
  | [] => Nat.le_refl _
  | 0 :: r => by
    have := opens_le cells r
    show opens r ≤ ([120] ++ inst cells r).length
    simp; omega
  | 1 :: r => by
    have := opens_le cells r
    show opens r ≤ ([41] ++ inst cells r).length
    simp; omega
  | (i + 2) :: r => by
    have := opens_le cells r
    show opens r + 1 ≤ (([40] ++ quoB (cells.getD i 0) ++ [47] ++ nameB (cells.getD i 0) i ++ [47]) ++ inst cells r).length
    simp; omega
theorem piece_call (w : World) (k : Nat) (cells : List Int) (p : List Nat) (d : Int) (hz : (inst cells p).length ≤ 1000) : CALL (Hd.cxOf w) (k + 4) (.ref 44) [.bytes (inst cells p), .int d] (.int (d + (opens p : Nat) - (closes p : Nat))) := by
  obtain ⟨f1, f2, f3⟩ := segs_fine cells p [] (fun x q => (nomatch q))
  have e := segs_text cells p []
  rw [show toB [] ++ inst cells p = inst cells p from rfl] at e
  obtain ⟨c1, c2⟩ := segs_count cells p []
  have hl : (textS (segsOf cells [] p).1 (segsOf cells [] p).2).length = (inst cells p).length := by rw [← e]; simp [toB]
  have ho := opens_le cells p
  have := Hd.depth_call (w := w) k (segsOf cells [] p).1 (segsOf cells [] p).2 d (fun s hs x hx => (f1 s hs x hx).1) (fun x hx => (f2 x hx).1) (text_small f1 f2) (by omega) (by omega)
  rw [e, c1, c2, show (toB []).count 40 + opens p = opens p from Nat.zero_add _, show (toB []).count 41 + closes p = closes p from Nat.zero_add _] at this
  exact this
end Mine
end
section -- H22
open PySem PySem.W PyProof.Rows PySem.Calls
set_option Elab.async false
set_option linter.all false
set_option maxRecDepth 100000
namespace Mine
namespace Hd
set_option maxHeartbeats 4000000 in
theorem well_said : PySem.Challenge.rw_wj0045_01.wellSaid = true := by
  rw [Fast.te9446332074065402090]
  unfold Fast.tw9446332074065402090 Fast.tw17960256430627541270 Fast.tw2436336058641802641 Fast.tw12908688711261696721
  repeat' (with_reducible refine look_both ?_ ?_)
  all_goals as_aux_lemma => kernel_rfl!
theorem law_holds (walk : LawWalk) : PySem.Challenge.rw_wj0045_01.Holds := by
  w_on
  exact holds_law well_said fun said => row_holds walk said
end Hd
end Mine
end
section -- H27
open PySem PySem.W PyProof.Rows PySem.Calls
set_option Elab.async false
set_option linter.all false
set_option maxRecDepth 100000
namespace Mine
theorem slice_two : (List.range 64).all (fun n => (List.range 9).all fun k => Nat.ble (sliceRange (sliceBounds (some ((k : Nat) : Int)) (some 18) (some 9) n).1 (sliceBounds (some ((k : Nat) : Int)) (some 18) (some 9) n).2.1 (sliceBounds (some ((k : Nat) : Int)) (some 18) (some 9) n).2.2).length 2) = true := by kernel_rfl!
theorem sum_le : ∀ (l : List Int), (∀ x ∈ l, x ≤ 999) → l.sum ≤ 999 * l.length
  | [], _ => by simp
  | a :: r, h => by
    have := sum_le r fun x hx => h x (List.mem_cons_of_mem _ hx)
    have := h a List.mem_cons_self
    simp only [List.sum_cons, List.length_cons]
    omega
theorem cells_le {script : List Int} (hz : script.length ≤ 63) : ∀ v ∈ cellsOf script, v ≤ 3000 := by
  intro v hv
  unfold cellsOf at hv
  obtain ⟨j, hj, rfl⟩ := List.mem_map.mp hv
  have hj := List.mem_range.mp hj
  have h1 : ∀ j, j < 9 → toldL.getD j 0 ≤ 26 := by decide
  have h2 := h1 j hj
  have hl : (addL script j).length ≤ 2 := by
    have := List.all_eq_true.mp (List.all_eq_true.mp slice_two script.length (List.mem_range.mpr (by omega))) j (List.mem_range.mpr hj)
    have := Nat.le_of_ble_eq_true this
    unfold addL pickA
    rw [List.length_map]
    exact Nat.le_trans (List.length_filterMap_le _ _) this
  have h3 := sum_le (addL script j) fun x hx => by
    obtain ⟨y, _, rfl⟩ := List.mem_map.mp hx
    have := Int.emod_lt_of_pos y (b := 1000) (by decide)
    omega
  omega
theorem rows_inj {u w : List Int} (h : rowsOf u = rowsOf w) : rowN u 6 = rowN w 6 := by
  unfold rowsOf at h
  have := congrArg (List.map List.length) h
  rw [List.map_map, List.map_map] at this
  have e : (List.length ∘ dots) = id := by funext n; simp [dots]
  rw [e, List.map_id, List.map_id] at this
  exact this
theorem grown_ok (w : World) (wd cells : List Int) (hv : Valid wd) (hc : cells.length = 9) (h0 : ∀ v ∈ cells, 0 ≤ v) (h1 : ∀ v ∈ cells, v ≤ 3000) :
    CALLn 2577 (Hd.cxOf w) 19 (.ref 210) [IL wd, IL cells] (.tup [SL (rowsOf wd), IL (setl cells wd (turns wd))]) := by
  have ok := word_ok hv
  have hT := text_is hv cells
  have hTl : (inst cells (skW wd)).length ≤ 1000 := by rw [← hT]; have := text_len wd cells 6; omega
  have hsp : split1 120 (inst cells (skW wd)) = (splitN (skW wd)).map (inst cells) := split_inst cells _
  obtain ⟨d1, d2⟩ := deeps_is (splitN (skW wd)) 0 (rowN wd 6) ok.deep
  rw [ok.rl] at d1
  obtain ⟨e1, e2⟩ := settled_end (cells := cells) hv
  have st := settle (cells := cells) hv
  have dd := (due_ok (cells := cells) hv)
  refine grown_call (k := 8) (Hd.pg_of w) wd cells (inst cells (skW wd)) (ordW wd) (dpF ((0 : Nat) : Int) (splitN (skW wd))) (turns wd) hv hc h0 h1 hT (Hd.heard_ok w 15 wd cells hv hc h0) (fun u hu => Hd.mail_ok 14 u hu) ?_ rfl ?_ ?_ (len_ok hv) (ord_ok hv) ?_ (fun i hi => (st i (by omega)).2.2.2 hi) e1 (by rw [e2, dd]) count_ok (st _ (Nat.le_refl _)).1 ?_
  · rw [hsp, List.length_map, d1]
  · have := (d2 7 (by omega)).2
    rw [this, List.getD_eq_getElem?_getD, List.getElem?_append_right (by rw [ok.rl]; omega), ok.rl]
    rfl
  · intro j hj
    have hp : (split1 120 (inst cells (skW wd))).getD j [] = inst cells ((splitN (skW wd)).getD j []) := by
      rw [hsp, List.getD_eq_getElem?_getD, List.getElem?_map, List.getD_eq_getElem?_getD, List.getElem?_eq_getElem (by omega)]
      rfl
    rw [hp]
    refine piece_call w 14 cells _ _ ?_
    rw [← hp]
    have hs := split1_sum 120 (inst cells (skW wd))
    have : ∀ (l : List (List UInt8)) (j : Nat), (l.getD j []).length ≤ (l.map List.length).sum := by
      intro l
      induction l with
      | nil => intro j; simp
      | cons a r ih =>
        intro j
        cases j with
        | zero => simp
        | succ j => have := ih j; rw [List.getD_cons_succ, List.map_cons, List.sum_cons]; omega
    have h2 := this (split1 120 (inst cells (skW wd))) j
    have hpos : 0 < (split1 120 (inst cells (skW wd))).length := List.length_pos_iff.mpr (split1_ne _ _)
    omega
  · intro j hj
    obtain ⟨a, b⟩ := d2 j (by omega)
    have e : (rowN wd 6 ++ [1]).getD j 0 = (rowN wd 6).getD j 0 := by
      rw [List.getD_eq_getElem?_getD, List.getElem?_append_left (by rw [ok.rl]; exact hj), List.getD_eq_getElem?_getD]
    rw [e] at a b
    rw [b]
    omega
  · unfold rowsOf
    rw [(st _ (Nat.le_refl _)).2.2.1]
theorem law_walk : Hd.LawWalk := by
  intro w script hz
  have h0 := cellsOf_nonneg (script := script)
  refine law_call (k := 0) (Hd.pg_of w) script (fun u => setl (cellsOf script) u (turns u)) hz (fun u hu => grown_ok w u _ hu (cellsOf_length script) h0 (cells_le hz)) (second_valid h0) ?_
  by_cases h : rowsOf (drawnOf (cellsOf script)) = rowsOf (secondOf (cellsOf script))
  · refine .inr ?_
    have v1 := drawn_valid (cellsOf script)
    have v2 := second_valid (cells := cellsOf script) h0
    show setl _ (drawnOf _) (turns (drawnOf _)) = setl _ (secondOf _) (turns (secondOf _))
    rw [(settled_end v1).2, (settled_end v2).2, same_due v1 v2 (rows_inj h)]
  · exact .inl h
theorem all_holds : PySem.Challenge.rw_wj0045_01.Holds := Hd.law_holds law_walk
end Mine
end
open PySem PySem.W PyProof.Rows
theorem PySem.Challenge.cw_wj0045_01_holds : PySem.Challenge.rw_wj0045_01.Holds := by
  exact Mine.all_holds
